import PyProof.Rows.All
import Wide.All
import OpenK.AllK
import Wide.FinOn
import PyProof.Walk
import PyProof.WalkLemmas
import PyProof.StrLawsIn
import PySem.Challenge.RW_pe0114_03
set_option Elab.async false
set_option linter.unusedVariables false
section
theorem Mine.forget_Top3 : True := by
  w_top off
  trivial
open PySem PySem.W PyProof.Rows
namespace Mine
set_option maxRecDepth 100000
set_option maxHeartbeats 8000000
open_top hd for PySem.Challenge.rw_pe0114_03
end Mine
end
section
theorem Mine.forget_MyK : True := by
  w_top off
  trivial
open PySem PySem.W PyProof.Rows PySem.Calls PySem.Spec
set_option maxRecDepth 100000
namespace Mine
/-- a goal that the walk leaves where it stands -/
def Held (P : Prop) : Prop := P
theorem Held.out {P : Prop} (h : Held P) : P := h
theorem Held.put {P : Prop} (h : P) : Held P := h
/-- where it stands in the context the walk does not hold -/
structure HoldOff : Prop where
/-- the frame, told anew by the names that count -/
theorem tidy {h₀ h : Heap} {L : Addr} {m : Str → Option Value} (F : Fr h₀ L h m) (ps : List (Str × Value)) (hk : ∀ p ∈ ps, m p.1 = some p.2) : ∃ u, Fr h₀ L h (kstB u ps) := by
  refine ⟨m, ?_⟩
  have em : kstB m ps = m := by
    funext y
    exact kstB_eq hk fun _ => rfl
  rw [em]
  exact F
/-- where the ways out of a loop meet -/
def JoinA {σ : Type} (h₀ : Heap) (L : Addr) (s : Shared) (Led : σ → List (Addr × Obj)) (ps : σ → List (Str × Value)) (Post : σ → Prop) (s₂ : Shared) : Prop :=
  ∃ (c' : σ) (h' : Heap) (tk : Nat) (m' : Str → Option Value) (news' : List (Addr × Obj)), s₂ = { s with heap := h', toks := tk } ∧ Fr h₀ L h' m' ∧ News h₀ L h' news' ∧ (∀ p ∈ Led c', p ∈ news') ∧ (∀ p ∈ ps c', m' p.1 = some p.2) ∧ Post c'
def EndA {σ : Type} (h₀ : Heap) (L : Addr) (s : Shared) (Led : σ → List (Addr × Obj)) (ps : σ → List (Str × Value)) (P : σ → Prop) (μ : σ → Nat) (Post : σ → Prop) (Q : Flow → Shared → Prop) (c : σ) (f : Flow) (s₂ : Shared) : Prop :=
  match f with
  | .ret v => Q (.ret v) s₂
  | .brk => JoinA h₀ L s Led ps Post s₂
  | _ => JoinA h₀ L s Led ps (fun c' => P c' ∧ μ c' < μ c) s₂
theorem joinA_end {σ : Type} {h₀ : Heap} {L : Addr} {s : Shared} {Led : σ → List (Addr × Obj)} {ps : σ → List (Str × Value)} {m' : Str → Option Value} {Post : σ → Prop} {h' : Heap} {tk : Nat} {news' : List (Addr × Obj)} (c' : σ)
    (F : Fr h₀ L h' m') (N : News h₀ L h' news') (hn : ∀ p ∈ Led c', p ∈ news') (hk : ∀ p ∈ ps c', m' p.1 = some p.2) (hp : Post c') :
    JoinA h₀ L s Led ps Post { s with heap := h', toks := tk } := ⟨c', h', tk, m', news', rfl, F, N, hn, hk, hp⟩
section
variable {prog : Program} {w : World} {A : Around} {E : Value → Shared → Prop} {Q : Flow → Shared → Prop} {s : Shared} {env : Env} {h₀ : Heap} {L : Addr}
theorem while_all {σ : Type} {test : Expr} {body : List Stmt} {pos : Pos} {m₀ : Str → Option Value} (Led : σ → List (Addr × Obj)) (ps : σ → List (Str × Value)) (P : σ → Prop) (μ : σ → Nat) (Post : σ → Prop) (c₀ : σ)
    (F : Fr h₀ L s.heap m₀) (N : News h₀ L s.heap (Led c₀)) (hk : ∀ p ∈ ps c₀, m₀ p.1 = some p.2) (hp : P c₀)
    (turn : ∀ (c : σ) (u : Str → Option Value) h tk, P c → Fr h₀ L h (kstB u (ps c)) → News h₀ L h (Led c) →
      wpAny (model prog w) A (isTrue test env (eval test env)) (fun b s₂ =>
        if b = true then wpAny (model prog w) A (execs body env) (EndA h₀ L s Led ps P μ Post Q c) E s₂ else JoinA h₀ L s Led ps Post s₂) E { s with heap := h, toks := tk })
    (next : ∀ (c : σ) (u : Str → Option Value) h tk, Post c → Fr h₀ L h (kstB u (ps c)) → News h₀ L h (Led c) → Q .next { s with heap := h, toks := tk })
    (hE : PassesOwn (model prog w) A env E := by passes_own) :
    wpAny (model prog w) A (exec (.While test body [] pos) env) Q E s := by
  have fin : ∀ s₂, JoinA h₀ L s Led ps Post s₂ → Q .next s₂ := by
    rintro _ ⟨c', h', tk, m', news', rfl, F, N, hn, hk, hp⟩
    refine next c' m' h' tk hp ?_ fun p q => N p (hn p q)
    have em : kstB m' (ps c') = m' := funext fun y => kstB_eq hk fun _ => rfl
    rw [em]; exact F
  refine While_inv2 (fun n m nx => ∃ c : σ, nx = Led c ∧ μ c = n ∧ (∀ p ∈ ps c, m p.1 = some p.2) ∧ P c) F N ⟨c₀, rfl, rfl, hk, hp⟩ ?_ hE
  rintro n m₁ nx h tk F₁ N₁ ⟨c, hnx, hsz, h1, hp'⟩
  rw [hnx] at N₁
  rw [← hsz]
  have em : kstB m₁ (ps c) = m₁ := funext fun y => kstB_eq h1 fun _ => rfl
  refine wpAny_mono (turn c m₁ h tk hp' (by rw [em]; exact F₁) N₁) (fun b s₂ p => ?_) fun _ _ x => x
  cases b with
  | false => simp only [Bool.false_eq_true, if_false] at p ⊢; exact fin _ p
  | true =>
    simp only [if_true] at p ⊢
    refine wpAny_mono p (fun f s₃ q => ?_) fun _ _ x => x
    cases f with
    | ret v => exact q
    | brk => exact fin _ q
    | next =>
      obtain ⟨c', h', tk', m', news', rfl, F', N', hn, hk9, hp9, hm9⟩ := q
      exact ⟨h', tk', m', Led c', μ c', rfl, F', fun p hp => N' p (hn p hp), hm9, c', rfl, rfl, hk9, hp9⟩
    | cont =>
      obtain ⟨c', h', tk', m', news', rfl, F', N', hn, hk9, hp9, hm9⟩ := q
      exact ⟨h', tk', m', Led c', μ c', rfl, F', fun p hp => N' p (hn p hp), hm9, c', rfl, rfl, hk9, hp9⟩
/-- a cut: the ways of a tree meet -/
theorem cut_all {σ : Type} {t : Sem Flow} {m₀ : Str → Option Value} (_F : Fr h₀ L s.heap m₀) (Led : σ → List (Addr × Obj)) (ps : σ → List (Str × Value)) (Post : σ → Prop)
    (hw : wpAny (model prog w) A t (fun f s₂ => match f with | .next => JoinA h₀ L s Led ps Post s₂ | f => Q f s₂) E s)
    (next : ∀ (c : σ) (u : Str → Option Value) h tk, Post c → Fr h₀ L h (kstB u (ps c)) → News h₀ L h (Led c) → Q .next { s with heap := h, toks := tk }) :
    wpAny (model prog w) A t Q E s := by
  refine wpAny_mono hw (fun f s₂ j => ?_) fun _ _ x => x
  cases f with
  | next =>
    obtain ⟨c', h', tk, m', news', rfl, F, N, hn, hk, hp⟩ := j
    refine next c' m' h' tk hp ?_ fun p q => N p (hn p q)
    have em : kstB m' (ps c') = m' := funext fun y => kstB_eq hk fun _ => rfl
    rw [em]; exact F
  | _ => exact j
end
end Mine
end
section
theorem Mine.forget_MyS : True := by
  w_top off
  trivial
open PySem PySem.W PyProof.Rows PySem.Calls PySem.Spec PySem.Builtin PySem.Builtin.Str
namespace Mine
abbrev lst (x : Str) : List Nat := x.cps.toList
theorem len_lst (x : Str) : x.length = (lst x).length := by simp [Str.length, lst]
theorem str_ext {x y : Str} (h : lst x = lst y) : x = y := by
  cases x; cases y; simp [lst] at h; subst h; rfl
theorem lst_mk (l : List Nat) : lst ⟨l.toArray⟩ = l := by simp [lst]
theorem lst_append (x y : Str) : lst (x ++ y) = lst x ++ lst y := by
  show (x.cps ++ y.cps).toList = _
  simp [lst]
theorem lst_from {x : Str} {i : Int} (h0 : 0 ≤ i) (h1 : i ≤ x.length) : lst (Txt.slice x (some i) none) = (lst x).drop i.toNat := by
  rw [slice_from_eq h0 h1 rfl, lst_mk]
  apply List.take_of_length_le
  rw [List.length_drop, ← len_lst]; (first | lia | omega)
theorem lst_to {x : Str} {j : Int} (h0 : 0 ≤ j) (h1 : j ≤ x.length) : lst (Txt.slice x none (some j)) = (lst x).take j.toNat := by
  rw [eq_of_beq (slice_closes_toL h0 h1), lst_mk]
  simp
theorem lst_to_neg {x : Str} {j : Int} (h0 : j < 0) (h1 : -(x.length : Int) ≤ j) : lst (Txt.slice x none (some j)) = (lst x).take (x.length + j).toNat := by
  rw [slice_to_neg h0, lst_to (by (first | lia | omega)) (by (first | lia | omega))]
  congr 1; (first | lia | omega)
theorem item_at {x : Str} {i : Int} (h0 : 0 ≤ i) (h1 : i < x.length) : Txt.item x i = ⟨#[((lst x)[i.toNat]?).getD 0]⟩ := by
  have h2 : i.toNat < x.cps.size := by simp only [Str.length] at h1; (first | lia | omega)
  have e : seqIndex? i x.length = some i.toNat := by
    unfold seqIndex?
    have : ¬ i < 0 := by (first | lia | omega)
    simp [this, h0, h1]
  unfold Txt.item Txt.charAt
  rw [e]
  simp [lst]
theorem item_neg {x : Str} {i : Int} (h0 : i < 0) (h1 : -(x.length : Int) ≤ i) : Txt.item x i = ⟨#[((lst x)[(x.length + i).toNat]?).getD 0]⟩ := by
  have h2 : (x.length + i).toNat < x.cps.size := by simp only [Str.length] at *; (first | lia | omega)
  have e : seqIndex? i x.length = some (x.length + i).toNat := by
    unfold seqIndex?
    have h3 : 0 ≤ i + (x.length : Int) := by (first | lia | omega)
    have h4 : i + (x.length : Int) < (x.length : Int) := by (first | lia | omega)
    simp [h0, h3, h4]
    (first | lia | omega)
  unfold Txt.item Txt.charAt
  rw [e]
  simp [lst]
theorem slice_all (x : Str) : Txt.slice x none none = x := by
  unfold Txt.slice
  have : (strSliceIndices none none 1 x.length).length = x.length := by
    unfold strSliceIndices sliceRange
    simp
    try (first | lia | omega)
  simp [this]
theorem one_beq {c d : Nat} : ((⟨#[c]⟩ : Str) == ⟨#[d]⟩) = (c == d) := by
  by_cases h : c = d
  · subst h; simp
  · have : (⟨#[c]⟩ : Str) ≠ ⟨#[d]⟩ := by intro e; simp at e; exact h e
    rw [beq_false_of_ne this, beq_false_of_ne h]
end Mine
end
section
theorem Mine.forget_MyP : True := by
  w_top off
  trivial
open PySem PySem.W PyProof.Rows PySem.Calls PySem.Spec
namespace Mine
/-- blocks one behind the other -/
def cat1 {α : Type} : List (List α) → List α
  | [] => []
  | [x] => x
  | x :: y :: r => x ++ cat1 (y :: r)
theorem mem_cat1 {α : Type} {p : α} : ∀ {bs : List (List α)}, p ∈ cat1 bs ↔ ∃ b ∈ bs, p ∈ b
  | [] => by simp [cat1]
  | [x] => by simp [cat1]
  | x :: y :: r => by rw [cat1, List.mem_append, mem_cat1 (bs := y :: r)]; simp
/-- the blocks is of bs lie among the blocks js of bs -/
theorem mem_blk {α : Type} (bs : List (List α)) (is js : List Nat) (h : ∀ i ∈ is, i ∈ js) : ∀ p ∈ cat1 (is.filterMap fun i => bs[i]?), p ∈ cat1 (js.filterMap fun i => bs[i]?) := by
  intro p hp
  obtain ⟨b, hb, hp⟩ := mem_cat1.mp hp
  obtain ⟨i, hi, e⟩ := List.mem_filterMap.mp hb
  exact mem_cat1.mpr ⟨b, List.mem_filterMap.mpr ⟨i, h i hi, e⟩, hp⟩
end Mine
end
section
theorem Mine.forget_MyL : True := by
  w_top off
  trivial
open PySem PySem.W PyProof.Rows PySem.Calls PySem.Spec
set_option maxRecDepth 100000
namespace Mine
/-- the ints a, a + c, .. (n of them) -/
def stepInts (a c : Int) (n : Nat) : List Int := (List.range n).map fun (i : Nat) => a + (i : Int) * c
theorem stepInts_length (a c : Int) (n : Nat) : (stepInts a c n).length = n := by simp [stepInts]
theorem stepInts_succ (a c : Int) (n : Nat) : stepInts a c (n + 1) = a :: stepInts (a + c) c n := by
  unfold stepInts
  rw [List.range_succ_eq_map, List.map_cons, List.map_map]
  congr 1
  · simp
  · apply List.map_congr_left
    intro i _
    simp only [Function.comp]
    push_cast
    rw [Int.add_mul]
    (first | lia | omega)
theorem step_ints : ∀ (vs : List Value) (a c : Int) (n : Nat), vs.length = n → (∀ (j : Nat) (v : Value), vs[j]? = some v → ∃ t, v = .int (a + j * c) t) → IntsAre vs (stepInts a c n)
  | [], a, c, n, e, _ => by
    subst e
    exact IntsAre.nil
  | v :: r, a, c, n, e, h => by
    subst e
    rw [List.length_cons, stepInts_succ]
    obtain ⟨t, ht⟩ := h 0 v rfl
    have hv : v = .int a t := by rw [ht]; simp
    subst hv
    refine IntsAre.cons _ _ (step_ints r (a + c) c r.length rfl fun j v hj => ?_)
    obtain ⟨t', ht'⟩ := h (j + 1) v hj
    refine ⟨t', ht'.trans ?_⟩
    congr 1
    push_cast
    rw [Int.add_mul]
    (first | lia | omega)
section
variable {prog : Program} {w : World} {A : Around} {E : Value → Shared → Prop} {s : Shared} {h₀ : Heap} {L l r : Addr} {m : Str → Option Value} {news : List (Addr × Obj)} {a b c : Int} {t₀ u₀ v₀ : Tok} {n : Nat} {Q : Value → Shared → Prop}
theorem list_range_step (hh : A.handled = none) (F : Fr h₀ L s.heap m) (N : News h₀ L s.heap news) (hr : IsRange s.heap r a b c t₀ u₀ v₀) (hsmall : Builtin.Range.small a b c = true) (hn : Builtin.Range.rangeSize a b c = (n : Int)) (hz : n ≤ 2 ^ 24)
    (h : ∀ D us k h' tk, Fr h₀ L h' m → News h₀ L h' ((D, listOf (List.toArray us) k) :: news) → (∀ p ∈ news, p.1 < D) → IntsAre us (stepInts a c n) → Q (.ref D) { s with heap := h', toks := tk }) :
    wpAny (model prog w) A (call (.type "list") [.ref r]) Q E s := by
  refine call_list_range hh hr hsmall hn hz fun h' tk acc k hk hD hI => ?_
  have hD' : h'.get? s.heap.objs.size = some (listOf (List.toArray acc.toList) k) := by
    rw [Array.toArray_toList]
    exact hD
  exact h _ acc.toList k h' tk (F.keeps hk) (news_pushed F N hk hD' rfl) (fun p hp => Heap.lt_size (N p hp).1) (step_ints _ _ _ _ (by rw [Array.length_toList]; exact hI.1) fun j v hj => hI.2 j v (by rw [← hj, Array.getElem?_toList]))
end
theorem range2_size (n : Nat) : Builtin.Range.rangeSize 2 (2 * ((n : Int) + 1)) 2 = (n : Int) := by
  unfold Builtin.Range.rangeSize
  rw [if_pos (by decide)]
  split <;> (first | lia | omega)
theorem fits_small {i : Int} (h0 : 0 ≤ i) (h1 : i ≤ 100000) : Builtin.Range.rangeFitsLong i = true := by
  unfold Builtin.Range.rangeFitsLong
  rw [Bool.and_eq_true]
  exact ⟨decide_eq_true (by (first | lia | omega)), decide_eq_true (by (first | lia | omega))⟩
theorem range2_small (n : Nat) (h : n ≤ 1000) : Builtin.Range.small 2 (2 * ((n : Int) + 1)) 2 = true := by
  unfold Builtin.Range.small
  rw [range2_size]
  have a1 := fits_small (i := 2) (by (first | lia | omega)) (by (first | lia | omega))
  have a2 := fits_small (i := 2 * ((n : Int) + 1)) (by (first | lia | omega)) (by (first | lia | omega))
  have a3 := fits_small (i := (n : Int)) (by (first | lia | omega)) (by (first | lia | omega))
  have a4 := fits_small (i := 2 * ((n : Int) + 1) + (2 - 1)) (by (first | lia | omega)) (by (first | lia | omega))
  rw [a1, a2, a3, if_pos (by decide), a4, Bool.or_true]
  rfl
end Mine
end
section
theorem Mine.forget_MyR : True := by
  w_top off
  trivial
open PySem PySem.W PyProof.Rows PySem.Calls PySem.Spec
set_option maxRecDepth 100000
namespace Mine
/-- a turn's end of a for -/
def EndR {σ : Type} (h₀ : Heap) (L : Addr) (s : Shared) (Led : σ → List (Addr × Obj)) (ps : σ → List (Str × Value)) (own : List (Addr × Obj)) (adr : List Addr) (P : σ → Prop) (Q : Flow → Shared → Prop) (f : Flow) (s₂ : Shared) : Prop :=
  match f with
  | .ret v => Q (.ret v) s₂
  | .brk => Q .next s₂
  | _ => JoinA h₀ L s (fun c => Led c ++ own) ps (fun c => (Led c).map (·.1) = adr ∧ P c) s₂
section
variable {prog : Program} {w : World} {A : Around} {E : Value → Shared → Prop} {Q : Flow → Shared → Prop} {s : Shared} {env : Env} {h₀ : Heap} {x : Str} {body : List Stmt}
theorem fr_kst {h : Heap} {L : Addr} {m : Str → Option Value} {ps : List (Str × Value)} (F : Fr h₀ L h m) (hk : ∀ p ∈ ps, m p.1 = some p.2) : Fr h₀ L h (kstB m ps) := by
  have em : kstB m ps = m := funext fun y => kstB_eq hk fun _ => rfl
  rw [em]; exact F
theorem endR_up {σ : Type} {Led : σ → List (Addr × Obj)} {ps : σ → List (Str × Value)} {own : List (Addr × Obj)} {adr : List Addr} {P : σ → Prop} {L : Addr} {f : Flow} {s₂ : Shared} {J : (Str → Option Value) → List (Addr × Obj) → Prop}
    (hJ : ∀ c m, (∀ p ∈ ps c, m p.1 = some p.2) → P c → J m (Led c)) (p : EndR h₀ L s Led ps own adr P Q f s₂) : InvPostN h₀ L J own adr s Q f s₂ := by
  cases f with
  | ret v => exact p
  | brk => exact p
  | next =>
    obtain ⟨c', h', tk, m', news', rfl, F', N', hn, hk, ha, hp⟩ := p
    exact ⟨h', tk, m', news', Led c', rfl, F', N', fun q hq => hn q (List.mem_append_left _ hq), fun q hq => hn q (List.mem_append_right _ hq), ha, hJ c' m' hk hp⟩
  | cont =>
    obtain ⟨c', h', tk, m', news', rfl, F', N', hn, hk, ha, hp⟩ := p
    exact ⟨h', tk, m', news', Led c', rfl, F', N', fun q hq => hn q (List.mem_append_left _ hq), fun q hq => hn q (List.mem_append_right _ hq), ha, hJ c' m' hk hp⟩
theorem range_all {σ : Type} {r : Addr} {a₀ b₀ : Int} {t₀ u₀ v₀ : Tok} {n : Nat} {m₀ : Str → Option Value} (Led : σ → List (Addr × Obj)) (ps : σ → List (Str × Value)) (P : Nat → σ → Prop) (c₀ : σ)
    (hh : A.handled = none) (hr : IsRange s.heap r a₀ b₀ 1 t₀ u₀ v₀) (hsmall : Builtin.Range.small a₀ b₀ 1 = true) (hn : Builtin.Range.rangeSize a₀ b₀ 1 = (n : Int)) (F : Fr h₀ env.locals s.heap m₀) (N : News h₀ env.locals s.heap (Led c₀)) (hk : ∀ p ∈ ps c₀, m₀ p.1 = some p.2) (hp : P 0 c₀)
    (turn : ∀ (c : σ) (i : Nat) t (u : Str → Option Value) h tk own, i < n → OwnOff own ((Led c₀).map (·.1)) → P i c →
      Fr h₀ env.locals h (kstB (kstB u (ps c)) [(x, .int (a₀ + i) t)]) → News h₀ env.locals h (Led c ++ own) →
      wpAny (model prog w) A (execs body env) (EndR h₀ env.locals { s with heap := h, toks := tk } Led ps own ((Led c₀).map (·.1)) (P (i + 1)) Q) E { s with heap := h, toks := tk })
    (done : ∀ (c : σ) (u : Str → Option Value) h tk, P n c → Fr h₀ env.locals h (kstB u (ps c)) → News h₀ env.locals h (Led c) → Q .next { s with heap := h, toks := tk }) :
    wpAny (model prog w) A (pyIter (.ref r)) (fun it s₂ => LoopAtV prog w A h₀ env x body Q E it s₂) E s := by
  refine wpAny_pyIter_range hr hsmall ?_
  have W : Walks prog w A s.heap.objs.size [s.heap.objs.size] [s.heap.objs.size] n (fun i v => i < n ∧ ∃ t, v = .int (a₀ + i * 1) t)
      (fun i h => IsRangeIter h s.heap.objs.size (a₀ + (i : Nat) * 1) ((n : Int) - (i : Nat)) 1) := (Walks.range hh _ a₀ 1 n).bound
  refine loop_invN (fun i m nx => ∃ c, nx = Led c ∧ (∀ p ∈ ps c, m p.1 = some p.2) ∧ P i c) W ?_ ?_ ?_ ?_ (by show IsRangeIter _ _ _ _ _; rw [hn]; simpa using Heap.get?_push_size _ rfl) (F.push _) (fun p hp => ⟨Heap.get?_push_of_some _ (N p hp).1, (N p hp).2⟩) ⟨c₀, rfl, hk, hp⟩ ?_ ?_
  · intro hm
    exact absurd F.ns.lt ((List.mem_singleton.mp hm) ▸ Nat.lt_irrefl _)
  · intro b hb
    rw [List.mem_singleton.mp hb]
    exact next_is_new F
  · intro p hp hI
    exact absurd (Heap.lt_size (N p hp).1) ((List.mem_singleton.mp hI) ▸ Nat.lt_irrefl _)
  · intro p hp hI
    exact absurd (Heap.lt_size (N p hp).1) ((List.mem_singleton.mp hI) ▸ Nat.lt_irrefl _)
  · rintro i v m₁ nx h tk own hi ⟨_, t, rfl⟩ _ hoff ⟨c, rfl, hk', hp'⟩ F₁ N₁
    have e1 : a₀ + (i : Int) * 1 = a₀ + (i : Int) := by omega
    rw [e1] at F₁
    refine wpAny_mono (turn c i t m₁ h tk own hi hoff hp' ?_ N₁) (fun f s₂ p => endR_up (fun c m h1 h2 => ⟨c, rfl, h1, h2⟩) p) fun _ _ e => e
    have em : kstB m₁ (ps c) = m₁ := funext fun y => kstB_eq hk' fun _ => rfl
    rw [em]
    exact F₁
  · rintro m₁ nx h tk ⟨c, rfl, hk', hp'⟩ F₁ N₁
    exact done c m₁ h tk hp' (fr_kst F₁ hk') N₁
end
end Mine
namespace Mine
/-- a contract of a def: what it asks, what it gives back, which ledger it leaves -/
abbrev Ctr (prog : Program) (w : World) (K : Frag) (p : Program) (loose : List Str) (mean : ExcName → Option Value) (mg mb : Str → Option Value) (Xt : Heap → Prop) (f : Addr) (rm : Nat) (news : List (Addr × Obj)) (pre : Prop) (vs : List Value) (Ret : Value → List (Addr × Obj) → Prop) : Prop :=
  ∀ (dp un : Nat) (gd : Option (List Code)) (cn : Str) (cs : Scope) (a : Addr) (ccd : Value) (cl : List (Str × Addr)) (outer : List Env) (A₀ : Around) (base h₀ : Heap) (L : Addr) (m : Str → Option Value) (s : Shared) (Q E : Value → Shared → Prop),
    Xt base → Below A₀ base outer h₀ → Fr h₀ L s.heap m → K.In h₀ → News h₀ L s.heap news → Top p loose mean mg mb h₀ → cs.kind = .function →
    pre → dp + rm < recursionLimit → un + 8 * rm < cLine →
    (∀ v news' h' tk', Ret v news' → Fr h₀ L h' m → News h₀ L h' news' → Q v { s with heap := h', toks := tk' }) →
      codeAny (model prog w) (ktrTop dp un gd cn cs L a ccd cl outer) (.call (.ref f) ⟨vs, []⟩) (fun r s' => match r with | .ok (.ret v) => Q v s' | .ok _ => False | .error e => E e s') s
theorem ctr_use {prog : Program} {w : World} {K : Frag} {p : Program} {loose : List Str} {mean : ExcName → Option Value} {mg mb : Str → Option Value} {Xt : Heap → Prop} {f : Addr} {rm : Nat} {news : List (Addr × Obj)} {pre : Prop} {vs : List Value} {Ret : Value → List (Addr × Obj) → Prop}
    {dp un : Nat} {gd : Option (List Code)} {cn : Str} {cs : Scope} {a : Addr} {ccd : Value} {cl : List (Str × Addr)} {outer : List Env} {A₀ : Around} {base h₀ : Heap} {L : Addr} {m : Str → Option Value} {s : Shared} {Q E : Value → Shared → Prop}
    (C : Ctr prog w K p loose mean mg mb Xt f rm news pre vs Ret) (X0 : Xt base) (B : Below A₀ base outer h₀) (F : Fr h₀ L s.heap m) (X : K.In h₀) (N : News h₀ L s.heap news) (T : Top p loose mean mg mb h₀) (hk : cs.kind = .function)
    (hp : pre) (hd : dp + rm < recursionLimit) (hu : un + 8 * rm < cLine)
    (ret : ∀ v news' h' tk', Ret v news' → Fr h₀ L h' m → News h₀ L h' news' → Q v { s with heap := h', toks := tk' }) :
      wpAny (model prog w) (ktrTop dp un gd cn cs L a ccd cl outer) (call (.ref f) vs) Q E s := wpAny_call (C _ _ _ _ _ _ _ _ _ _ _ _ _ _ _ _ _ X0 B F X N T hk hp hd hu ret)
end Mine
namespace Mine
theorem ret_int {x y : Int} {t : Tok} (h : y = x) : ∃ t', Value.int y t = Value.int x t' := ⟨t, by rw [h]⟩
theorem ret_str {x y : Str} {t : Tok} (h : y = x) : ∃ t', Value.str y t = Value.str x t' := ⟨t, by rw [h]⟩
end Mine
namespace Mine
theorem off_all {own news : List (Addr × Obj)} {D : Addr} {adr : List Addr} (l1 : ∀ p ∈ news, p.1 < D) (ho : OwnOff own adr) (hD : D ∈ adr) : ∀ p ∈ news ++ own, p.1 ≠ D := by
  intro p hp
  rcases List.mem_append.mp hp with h | h
  · exact Nat.ne_of_lt (l1 p h)
  · exact ho p h D hD
theorem off_more {own news : List (Addr × Obj)} {D : Addr} {adr : List Addr} (l1 : ∀ p ∈ news, p.1 ≠ D) (ho : OwnOff own adr) (hD : D ∈ adr) : ∀ p ∈ news ++ own, p.1 ≠ D := by
  intro p hp
  rcases List.mem_append.mp hp with h | h
  · exact l1 p h
  · exact ho p h D hD
end Mine
end
section
theorem Mine.forget_MyLev : True := by
  w_top off
  trivial
open PySem PySem.W PyProof.Rows PySem.Calls PySem.Spec
namespace Mine
def substF (a b : Str) : Int := if a = b then 0 else if Txt.lower a = Txt.lower b then 1 else 2
def cost (c d : Nat) : Nat := (substF ⟨#[c]⟩ ⟨#[d]⟩).toNat
def lev : List Nat → List Nat → Nat
  | [], y => 2 * y.length
  | c :: x, [] => 2 * (x.length + 1)
  | c :: x, d :: y => min (min (lev x (d :: y)) (lev (c :: x) y) + 2) (lev x y + cost c d)
termination_by x y => x.length + y.length
def Dd (y x : List Nat) (j k : Nat) : Int := (lev (y.take j) (x.take k) : Nat)
def rowAt (y x : List Nat) (j : Nat) : List Int := (List.range x.length).map fun k => Dd y x j (k + 1)
def mixAt (y x : List Nat) (j i : Nat) : List Int := (List.range x.length).map fun k => if k < i then Dd y x (j + 1) (k + 1) else Dd y x j (k + 1)
def resAt (y x : List Nat) (j i : Nat) : Int := if i = 0 then (j : Int) * 2 else Dd y x (j + 1) i
end Mine
open PySem PySem.W PyProof.Rows PySem.Calls PySem.Spec
namespace Mine
theorem substF_bd (a b : Str) : 0 ≤ substF a b ∧ substF a b ≤ 2 := by unfold substF; split <;> (try split) <;> decide
theorem cost_le (c d : Nat) : cost c d ≤ 2 := by have := (substF_bd ⟨#[c]⟩ ⟨#[d]⟩); unfold cost; (first | lia | omega)
theorem cost_int (c d : Nat) : (cost c d : Int) = substF ⟨#[c]⟩ ⟨#[d]⟩ := by have := (substF_bd ⟨#[c]⟩ ⟨#[d]⟩); unfold cost; (first | lia | omega)
theorem substF_comm (a b : Str) : substF a b = substF b a := by
  unfold substF
  by_cases h : a = b
  · subst h; rfl
  · rw [if_neg h, if_neg (Ne.symm h)]
    by_cases h2 : Txt.lower a = Txt.lower b
    · rw [if_pos h2, if_pos h2.symm]
    · rw [if_neg h2, if_neg (Ne.symm h2)]
theorem cost_comm (c d : Nat) : cost c d = cost d c := by unfold cost; rw [substF_comm]
theorem cost_self (c : Nat) : cost c c = 0 := by unfold cost substF; rw [if_pos rfl]; rfl
inductive Ed : List Nat → List Nat → Nat → Prop
  | nil : Ed [] [] 0
  | del {c x y n} : Ed x y n → Ed (c :: x) y (n + 2)
  | ins {d x y n} : Ed x y n → Ed x (d :: y) (n + 2)
  | sub {c d x y n} : Ed x y n → Ed (c :: x) (d :: y) (n + cost c d)
theorem lev_nl (y : List Nat) : lev [] y = 2 * y.length := by rw [lev]
theorem lev_nr : ∀ y : List Nat, lev y [] = 2 * y.length
  | [] => by rw [lev]
  | c :: y => by rw [lev]; rfl
theorem lev_cc (c d : Nat) (x y : List Nat) : lev (c :: x) (d :: y) = min (min (lev x (d :: y)) (lev (c :: x) y) + 2) (lev x y + cost c d) := by rw [lev]
theorem Ed.nl : ∀ y : List Nat, Ed [] y (2 * y.length)
  | [] => .nil
  | d :: y => by have := Ed.ins (d := d) (Ed.nl y); rwa [show 2 * y.length + 2 = 2 * (d :: y).length by simp; (first | lia | omega)] at this
theorem Ed.nr : ∀ y : List Nat, Ed y [] (2 * y.length)
  | [] => .nil
  | d :: y => by have := Ed.del (c := d) (Ed.nr y); rwa [show 2 * y.length + 2 = 2 * (d :: y).length by simp; (first | lia | omega)] at this
theorem lev_ed (x y : List Nat) : Ed x y (lev x y) := by
  induction x, y using lev.induct with
  | case1 y => rw [lev_nl]; exact Ed.nl y
  | case2 c x => rw [lev_nr]; exact Ed.nr _
  | case3 c x d y h1 h2 h3 =>
    rw [lev_cc]
    have a1 := Ed.del (c := c) h1
    have a2 := Ed.ins (d := d) h2
    have a3 := Ed.sub (c := c) (d := d) h3
    rcases Nat.le_total (lev x (d :: y)) (lev (c :: x) y) with h | h
    · rw [Nat.min_eq_left h]
      rcases Nat.le_total (lev x (d :: y) + 2) (lev x y + cost c d) with h' | h'
      · rw [Nat.min_eq_left h']; exact a1
      · rw [Nat.min_eq_right h']; exact a3
    · rw [Nat.min_eq_right h]
      rcases Nat.le_total (lev (c :: x) y + 2) (lev x y + cost c d) with h' | h'
      · rw [Nat.min_eq_left h']; exact a2
      · rw [Nat.min_eq_right h']; exact a3
theorem lev_del (c : Nat) (x y : List Nat) : lev (c :: x) y ≤ lev x y + 2 := by
  cases y with
  | nil => rw [lev_nr, lev_nr]; simp; (first | lia | omega)
  | cons d y => rw [lev_cc]; (first | lia | omega)
theorem lev_ins (d : Nat) (x y : List Nat) : lev x (d :: y) ≤ lev x y + 2 := by
  cases x with
  | nil => rw [lev_nl, lev_nl]; simp; (first | lia | omega)
  | cons c x => rw [lev_cc]; (first | lia | omega)
theorem lev_le {x y : List Nat} {n : Nat} (h : Ed x y n) : lev x y ≤ n := by
  induction h with
  | nil => rw [lev_nl]; simp
  | del _ ih => have := lev_del (by assumption) (by assumption) (by assumption); exact Nat.le_trans (lev_del _ _ _) (by (first | lia | omega))
  | ins _ ih => exact Nat.le_trans (lev_ins _ _ _) (by (first | lia | omega))
  | sub _ ih => rw [lev_cc]; (first | lia | omega)
theorem Ed.app {x y x' y' : List Nat} {n m : Nat} (h : Ed x y n) (h' : Ed x' y' m) : Ed (x ++ x') (y ++ y') (n + m) := by
  induction h with
  | nil => simpa using h'
  | @del c x y n _ ih => have := Ed.del (c := c) ih; rw [Nat.add_right_comm] at this; exact this
  | @ins d x y n _ ih => have := Ed.ins (d := d) ih; rw [Nat.add_right_comm] at this; exact this
  | @sub c d x y n _ ih => have := Ed.sub (c := c) (d := d) ih; rw [Nat.add_right_comm] at this; exact this
theorem Ed.to {x y : List Nat} {n m : Nat} (h : Ed x y n) (e : n = m) : Ed x y m := e ▸ h
theorem Ed.rev {x y : List Nat} {n : Nat} (h : Ed x y n) : Ed x.reverse y.reverse n := by
  induction h with
  | nil => exact .nil
  | @del c x y n _ ih => have := ih.app (Ed.del (c := c) .nil); simpa using this
  | @ins d x y n _ ih => have := ih.app (Ed.ins (d := d) .nil); simpa using this
  | @sub c d x y n _ ih => have := ih.app (Ed.sub (c := c) (d := d) .nil); simpa using this
theorem Ed.symm {x y : List Nat} {n : Nat} (h : Ed x y n) : Ed y x n := by
  induction h with
  | nil => exact .nil
  | del _ ih => exact ih.ins
  | ins _ ih => exact ih.del
  | @sub c d x y n _ ih => rw [cost_comm]; exact ih.sub
theorem Ed.same : ∀ x : List Nat, Ed x x 0
  | [] => .nil
  | c :: x => by have := Ed.sub (c := c) (d := c) (Ed.same x); rwa [cost_self] at this
theorem lev_rev (x y : List Nat) : lev x.reverse y.reverse = lev x y := by
  refine Nat.le_antisymm (lev_le (lev_ed x y).rev) ?_
  have := lev_le (lev_ed x.reverse y.reverse).rev
  simpa using this
theorem lev_comm' (x y : List Nat) : lev x y = lev y x := Nat.le_antisymm (lev_le (lev_ed y x).symm) (lev_le (lev_ed x y).symm)
theorem lev_self' (x : List Nat) : lev x x = 0 := Nat.le_zero.mp (lev_le (Ed.same x))
theorem lev_less {x w : List Nat} {n : Nat} (h : Ed x w n) : ∀ {c y}, w = c :: y → lev x y ≤ n + 2 := by
  induction h with
  | nil => intro c y e; cases e
  | @del c' x y' n h ih =>
    intro c y e
    subst e
    have h1 := lev_del c' x y
    have h2 := ih rfl
    (first | lia | omega)
  | @ins d x y' n h ih =>
    intro c y e
    cases e
    have := lev_le h
    (first | lia | omega)
  | @sub c' d x y' n h ih =>
    intro c y e
    cases e
    have h1 := lev_del c' x y'
    have h2 := lev_le h
    (first | lia | omega)
theorem lev_tl (c : Nat) (x y : List Nat) : lev x y ≤ lev x (c :: y) + 2 := lev_less (lev_ed x (c :: y)) rfl
theorem lev_cons (c : Nat) (x y : List Nat) : lev (c :: x) (c :: y) = lev x y := by
  rw [lev_cc, cost_self]
  have h1 := lev_tl c x y
  have h2 := lev_tl c y x
  rw [lev_comm' y x, lev_comm' y (c :: x)] at h2
  (first | lia | omega)
theorem lev_prefix' : ∀ p x y : List Nat, lev (p ++ x) (p ++ y) = lev x y
  | [], _, _ => rfl
  | c :: p, x, y => by rw [List.cons_append, List.cons_append, lev_cons, lev_prefix' p]
theorem lev_suffix' (s x y : List Nat) : lev (x ++ s) (y ++ s) = lev x y := by
  rw [← lev_rev, List.reverse_append, List.reverse_append, lev_prefix', lev_rev]
theorem Ed.ge {x y : List Nat} {n : Nat} (h : Ed x y n) : 2 * (x.length : Int) - 2 * y.length ≤ n := by
  induction h with
  | nil => simp
  | del _ ih => rw [List.length_cons]; push_cast; (first | lia | omega)
  | ins _ ih => rw [List.length_cons]; push_cast; (first | lia | omega)
  | sub _ ih => rw [List.length_cons, List.length_cons]; push_cast; (first | lia | omega)
theorem lev_ge' (x y : List Nat) : 2 * (x.length : Int) - 2 * y.length ≤ lev x y := (lev_ed x y).ge
theorem Ed.mid {y x : List Nat} {n : Nat} (h : Ed y x n) : ∀ i, i ≤ y.length → ∃ k, k ≤ x.length ∧ lev (y.take i) (x.take k) ≤ n := by
  induction h with
  | nil => intro i _; exact ⟨0, Nat.le_refl _, by simp [lev_nl]⟩
  | @del c y x n h ih =>
    intro i hi
    cases i with
    | zero => exact ⟨0, Nat.zero_le _, by simp [lev_nl]⟩
    | succ i =>
      obtain ⟨k, h1, h2⟩ := ih i (by simpa using hi)
      refine ⟨k, h1, ?_⟩
      rw [List.take_succ_cons]
      exact Nat.le_trans (lev_del _ _ _) (by (first | lia | omega))
  | @ins d y x n h ih =>
    intro i hi
    obtain ⟨k, h1, h2⟩ := ih i hi
    refine ⟨k + 1, by simpa using h1, ?_⟩
    rw [List.take_succ_cons]
    exact Nat.le_trans (lev_ins _ _ _) (by (first | lia | omega))
  | @sub c d y x n h ih =>
    intro i hi
    cases i with
    | zero => exact ⟨0, Nat.zero_le _, by simp [lev_nl]⟩
    | succ i =>
      obtain ⟨k, h1, h2⟩ := ih i (by simpa using hi)
      refine ⟨k + 1, by simpa using h1, ?_⟩
      rw [List.take_succ_cons, List.take_succ_cons, lev_cc]
      (first | lia | omega)
theorem lev_row' (y x : List Nat) (j : Nat) (mc : Int) (hx : 0 < x.length) (hj : j < y.length) (h : ∀ k, k < x.length → mc < Dd y x (j + 1) (k + 1)) : mc < lev y x := by
  obtain ⟨k, h1, h2⟩ := (lev_ed y x).mid (j + 1) hj
  cases k with
  | succ k =>
    have := h k h1
    unfold Dd at this
    (first | lia | omega)
  | zero =>
    have h3 := h 0 hx
    unfold Dd at h3
    rw [List.take_zero, lev_nr, List.length_take] at h2
    have h4 : lev (y.take (j + 1)) (x.take (0 + 1)) ≤ 2 * (j + 1) := by
      cases hy : y with
      | nil => rw [hy] at hj; simp at hj
      | cons c y' =>
        cases hx' : x with
        | nil => rw [hx'] at hx; simp at hx
        | cons d x' =>
          rw [List.take_succ_cons, List.take_succ_cons, List.take_zero, lev_cc, lev_nr (y'.take j)]
          have := cost_le c d
          have h5 : (y'.take j).length ≤ j := List.length_take_le _ _
          (first | lia | omega)
    (first | lia | omega)
theorem D_zero' (y x : List Nat) (j : Nat) (h : j ≤ y.length) : Dd y x j 0 = (j : Int) * 2 := by
  unfold Dd
  rw [List.take_zero, lev_nr, List.length_take]
  (first | lia | omega)
theorem lev_snoc (x y : List Nat) (c d : Nat) : lev (x ++ [c]) (y ++ [d]) = min (min (lev x (y ++ [d])) (lev (x ++ [c]) y) + 2) (lev x y + cost c d) := by
  have e : ∀ (z : List Nat) (c : Nat), (z ++ [c]).reverse = c :: z.reverse := fun z c => by simp
  rw [← lev_rev (x ++ [c]), e, e, lev_cc, ← e, ← e, lev_rev, lev_rev, lev_rev]
theorem take_snoc {l : List Nat} {i : Nat} (h : i < l.length) : l.take (i + 1) = l.take i ++ [(l[i]?).getD 0] := by
  rw [List.take_add_one, List.getElem?_eq_getElem h]; rfl
theorem D_step' (y x : Str) (j i : Nat) (hj : j < y.length) (hi : i < x.length) :
    Dd (lst y) (lst x) (j + 1) (i + 1) = min (min (resAt (lst y) (lst x) j i) (Dd (lst y) (lst x) j (i + 1)) + 2) (Dd (lst y) (lst x) j i + substF (Txt.item y j) (Txt.item x i)) := by
  have hj' : j < (lst y).length := by rw [← len_lst]; exact hj
  have hi' : i < (lst x).length := by rw [← len_lst]; exact hi
  have hs := lev_snoc ((lst y).take j) ((lst x).take i) ((lst y)[j]?.getD 0) ((lst x)[i]?.getD 0)
  rw [← take_snoc hj', ← take_snoc hi'] at hs
  rw [item_at (by (first | lia | omega)) (by (first | lia | omega)), item_at (by (first | lia | omega)) (by (first | lia | omega)), Int.toNat_natCast, Int.toNat_natCast, ← cost_int]
  have hc := cost_le ((lst y)[j]?.getD 0) ((lst x)[i]?.getD 0)
  unfold resAt
  by_cases h0 : i = 0
  · subst h0
    rw [if_pos rfl, D_zero' _ _ _ (by (first | lia | omega))]
    unfold Dd
    rw [hs, List.take_zero, lev_nr, lev_nr, List.length_take, List.length_take]
    push_cast
    (first | lia | omega)
  · rw [if_neg h0]
    unfold Dd
    rw [hs]
    push_cast
    (first | lia | omega)
theorem row_start' (y x : List Nat) : stepInts 2 2 x.length = rowAt y x 0 := by
  unfold stepInts rowAt
  apply List.map_congr_left
  intro k hk
  have := List.mem_range.mp hk
  unfold Dd
  rw [List.take_zero, lev_nl, List.length_take]
  (first | lia | omega)
theorem mix_start' (y x : List Nat) (j : Nat) : mixAt y x j 0 = rowAt y x j := by
  unfold mixAt rowAt
  apply List.map_congr_left
  intro k _
  rw [if_neg (by (first | lia | omega))]
theorem mix_end' (y x : List Nat) (j : Nat) : mixAt y x j x.length = rowAt y x (j + 1) := by
  unfold mixAt rowAt
  apply List.map_congr_left
  intro k hk
  rw [if_pos (List.mem_range.mp hk)]
theorem mix_get' (y x : List Nat) (j i : Nat) (h : i < x.length) : (mixAt y x j i).getD i 0 = Dd y x j (i + 1) := by
  unfold mixAt
  rw [List.getD_eq_getElem?_getD, List.getElem?_map, List.getElem?_range h]
  simp
theorem mix_set' (y x : List Nat) (j i : Nat) (h : i < x.length) : (mixAt y x j i).set i (Dd y x (j + 1) (i + 1)) = mixAt y x j (i + 1) := by
  apply List.ext_getElem
  · simp [mixAt]
  · intro k h1 h2
    rw [List.getElem_set]
    simp only [mixAt, List.getElem_map, List.getElem_range]
    by_cases e : i = k
    · subst e; simp
    · rw [if_neg e]
      by_cases e2 : k < i
      · rw [if_pos e2, if_pos (by (first | lia | omega))]
      · rw [if_neg e2, if_neg (by (first | lia | omega))]
end Mine

namespace Mine
theorem row_start (y x : List Nat) : stepInts 2 2 x.length = rowAt y x 0 := row_start' y x
theorem mix_start (y x : List Nat) (j : Nat) : mixAt y x j 0 = rowAt y x j := mix_start' y x j
theorem mix_end (y x : List Nat) (j : Nat) : mixAt y x j x.length = rowAt y x (j + 1) := mix_end' y x j
theorem mix_len (y x : List Nat) (j i : Nat) : (mixAt y x j i).length = x.length := by simp [mixAt]
theorem mix_get (y x : List Nat) (j i : Nat) (h : i < x.length) : (mixAt y x j i).getD i 0 = Dd y x j (i + 1) := mix_get' y x j i h
theorem mix_set (y x : List Nat) (j i : Nat) (h : i < x.length) : (mixAt y x j i).set i (Dd y x (j + 1) (i + 1)) = mixAt y x j (i + 1) := mix_set' y x j i h
theorem D_zero (y x : List Nat) (j : Nat) (h : j ≤ y.length) : Dd y x j 0 = (j : Int) * 2 := D_zero' y x j h
theorem D_step (y x : Str) (j i : Nat) (hj : j < y.length) (hi : i < x.length) :
    Dd (lst y) (lst x) (j + 1) (i + 1) = min (min (resAt (lst y) (lst x) j i) (Dd (lst y) (lst x) j (i + 1)) + 2) (Dd (lst y) (lst x) j i + substF (Txt.item y j) (Txt.item x i)) := D_step' y x j i hj hi
end Mine
namespace Mine
theorem dp_val (y x : Str) (j i : Nat) (hj : j < y.length) (hi : i < x.length) (dist res : Int) (ns : List Int) (hns : ns = mixAt (lst y) (lst x) j i) (hdist : dist = Dd (lst y) (lst x) j i) (hres : res = resAt (lst y) (lst x) j i) :
    (if dist + substF (Txt.item y (0 + (j : Int))) (Txt.item x (0 + (i : Int))) < (if ns.getD (0 + (i : Int)).toNat 0 < res then ns.getD (0 + (i : Int)).toNat 0 else res) + 2 then dist + substF (Txt.item y (0 + (j : Int))) (Txt.item x (0 + (i : Int)))
      else (if ns.getD (0 + (i : Int)).toNat 0 < res then ns.getD (0 + (i : Int)).toNat 0 else res) + 2) = Dd (lst y) (lst x) (j + 1) (i + 1) := by
  have e : (0 + (i : Int)).toNat = i := by (first | lia | omega)
  rw [e, hns, mix_get _ _ _ _ (by rw [← len_lst]; exact hi), hdist, hres, D_step y x j i hj hi, Int.zero_add, Int.zero_add]
  generalize resAt (lst y) (lst x) j i = r
  generalize Dd (lst y) (lst x) j (i + 1) = d
  generalize Dd (lst y) (lst x) j i + substF (Txt.item y j) (Txt.item x i) = q
  split <;> split <;> (first | lia | omega)
theorem dp_get (y x : Str) (j i : Nat) (hi : i < x.length) (ns : List Int) (hns : ns = mixAt (lst y) (lst x) j i) : ns.getD (0 + (i : Int)).toNat 0 = Dd (lst y) (lst x) j (i + 1) := by
  have e : (0 + (i : Int)).toNat = i := by (first | lia | omega)
  rw [e, hns, mix_get _ _ _ _ (by rw [← len_lst]; exact hi)]
theorem dp_set (y x : Str) (j i : Nat) (hi : i < x.length) (ns : List Int) (hns : ns = mixAt (lst y) (lst x) j i) : ns.set (0 + (i : Int)).toNat (Dd (lst y) (lst x) (j + 1) (i + 1)) = mixAt (lst y) (lst x) j (i + 1) := by
  have e : (0 + (i : Int)).toNat = i := by (first | lia | omega)
  rw [e, hns, mix_set _ _ _ _ (by rw [← len_lst]; exact hi)]
theorem dp_res (y x : Str) (j i : Nat) : Dd (lst y) (lst x) (j + 1) (i + 1) = resAt (lst y) (lst x) j (i + 1) := by
  unfold resAt; rw [if_neg (by (first | lia | omega))]
theorem dp_min1 {d : Nat → Int} {i : Nat} {mn : Int} (hm : ∀ k, k < i → mn ≤ d k) (h : d i < mn) : ∀ k, k < i + 1 → d i ≤ d k := by
  intro k hk
  rcases Nat.lt_succ_iff_lt_or_eq.mp hk with h1 | h1
  · have := hm k h1; (first | lia | omega)
  · subst h1; (first | lia | omega)
theorem dp_min2 {d : Nat → Int} {i : Nat} {mn : Int} (hm : ∀ k, k < i → mn ≤ d k) (h : ¬ d i < mn) : ∀ k, k < i + 1 → mn ≤ d k := by
  intro k hk
  rcases Nat.lt_succ_iff_lt_or_eq.mp hk with h1 | h1
  · exact hm k h1
  · subst h1; (first | lia | omega)
end Mine
namespace Mine
def LevOk (a b : Str) (mc r : Int) : Prop := (lev (lst a) (lst b) : Int) = r ∨ (mc < r ∧ mc < (lev (lst a) (lst b) : Int))
def P1 (a b : Str) (pre : Int) : Prop := 0 ≤ pre ∧ pre ≤ a.length ∧ pre ≤ b.length ∧ (lst a).take pre.toNat = (lst b).take pre.toNat
def P2 (a b : Str) (post : Int) : Prop := post ≤ 0 ∧ -post ≤ a.length ∧ -post ≤ b.length ∧ (lst a).drop (a.length + post).toNat = (lst b).drop (b.length + post).toNat
theorem lev_self (x : List Nat) : lev x x = 0 := lev_self' x
theorem lev_comm (x y : List Nat) : lev x y = lev y x := lev_comm' x y
theorem lev_prefix (p x y : List Nat) : lev (p ++ x) (p ++ y) = lev x y := lev_prefix' p x y
theorem lev_suffix (s x y : List Nat) : lev (x ++ s) (y ++ s) = lev x y := lev_suffix' s x y
theorem lev_nil_left (y : List Nat) : lev [] y = 2 * y.length := lev_nl y
theorem lev_nil_right (y : List Nat) : lev y [] = 2 * y.length := lev_nr y
theorem lev_ge (x y : List Nat) : 2 * (x.length : Int) - 2 * y.length ≤ lev x y := lev_ge' x y
theorem lev_row (y x : List Nat) (j : Nat) (mc : Int) (hx : 0 < x.length) (hj : j < y.length) (h : ∀ k, k < x.length → mc < Dd y x (j + 1) (k + 1)) : mc < lev y x := lev_row' y x j mc hx hj h
theorem D_full (y x : List Nat) : Dd y x y.length x.length = lev y x := by simp [Dd]
theorem lev_strip {a b a1 b1 a2 b2 : Str} {pre post : Int} (h1 : P1 a b pre) (hA : Txt.slice a (some pre) none = a1) (hB : Txt.slice b (some pre) none = b1) (h2 : P2 a1 b1 post)
    (hc : lst a2 = (lst a1).take (a1.length + post).toNat) (hd : lst b2 = (lst b1).take (b1.length + post).toNat) : lev (lst a) (lst b) = lev (lst a2) (lst b2) := by
  obtain ⟨p0, p1, p2, p3⟩ := h1
  obtain ⟨q0, q1, q2, q3⟩ := h2
  have ea : lst a = (lst a).take pre.toNat ++ lst a1 := by rw [← hA, lst_from p0 p1, List.take_append_drop]
  have eb : lst b = (lst a).take pre.toNat ++ lst b1 := by rw [← hB, lst_from p0 p2, p3, List.take_append_drop]
  have ea1 : lst a1 = lst a2 ++ (lst a1).drop (a1.length + post).toNat := by rw [hc, List.take_append_drop]
  have eb1 : lst b1 = lst b2 ++ (lst a1).drop (a1.length + post).toNat := by rw [q3, hd, List.take_append_drop]
  rw [ea, eb, lev_prefix, ea1, eb1, lev_suffix]
theorem ok_same {a b : Str} {mc : Int} (h : (a == b) = true) : LevOk a b mc 0 := by
  rw [eq_of_beq h]
  exact .inl (by rw [lev_self]; rfl)
theorem ok_one {a b a2 b2 : Str} {mc : Int} (hL : lev (lst a) (lst b) = lev (lst a2) (lst b2)) (h : a2.length = 0 ∨ b2.length = 0) : LevOk a b mc (2 * (a2.length + b2.length)) := by
  refine .inl ?_
  rw [hL]
  rcases h with h | h
  · have : lst a2 = [] := List.eq_nil_of_length_eq_zero (by rw [← len_lst]; exact h)
    rw [this, lev_nil_left, ← len_lst, h]; push_cast; (first | lia | omega)
  · have : lst b2 = [] := List.eq_nil_of_length_eq_zero (by rw [← len_lst]; exact h)
    rw [this, lev_nil_right, ← len_lst, h]; push_cast; (first | lia | omega)
theorem ok_far {a b x y : Str} {mc : Int} (hL : lev (lst a) (lst b) = lev (lst y) (lst x)) (h : mc < ((y.length : Int) - x.length) * 2) : LevOk a b mc (mc + 1) := by
  refine .inr ⟨by (first | lia | omega), ?_⟩
  rw [hL]
  have := lev_ge (lst y) (lst x)
  rw [← len_lst, ← len_lst] at this
  (first | lia | omega)
theorem ok_row {a b x y : Str} {mc mn : Int} {j : Nat} (hL : lev (lst a) (lst b) = lev (lst y) (lst x)) (hx : 0 < x.length) (hj : j < y.length) (hm : ∀ k, k < x.length → mn ≤ Dd (lst y) (lst x) (j + 1) (k + 1)) (h : mc < mn) : LevOk a b mc (mc + 1) := by
  refine .inr ⟨by (first | lia | omega), ?_⟩
  rw [hL]
  refine lev_row _ _ j mc (by rw [← len_lst]; exact hx) (by rw [← len_lst]; exact hj) fun k hk => ?_
  have := hm k (by rw [len_lst]; exact hk)
  (first | lia | omega)
theorem ok_done {a b x y : Str} {mc r : Int} (hL : lev (lst a) (lst b) = lev (lst y) (lst x)) (h : r = Dd (lst y) (lst x) y.length x.length) : LevOk a b mc r := by
  refine .inl ?_
  rw [hL, h, len_lst, len_lst, D_full]
theorem lev_swap {a2 b2 x y : Str} (h : (x = a2 ∧ y = b2) ∨ (x = b2 ∧ y = a2)) : lev (lst a2) (lst b2) = lev (lst y) (lst x) := by
  rcases h with ⟨rfl, rfl⟩ | ⟨rfl, rfl⟩
  · exact lev_comm _ _
  · rfl
end Mine
end
section
theorem Mine.forget_MyF : True := by
  w_top off
  trivial
open PySem PySem.W PyProof.Rows PySem.Calls PySem.Spec PySem.Builtin PySem.Builtin.ObjectAttr
set_option maxRecDepth 100000
set_option maxHeartbeats 2000000
namespace Mine
theorem slot_fn_setattr : Slot "function" (Str.ofString "__setattr__") "object.__setattr__" :=
  .of (owner := "object") (n := "__setattr__") (by rw [typeLookup_type, builtinLookup_eq_fast]; kernel_rfl) (by decide +kernel) (by decide +kernel) (by decide +kernel)
    (by first | exact .inl (by decide +kernel) | exact .inr (by decide +kernel)) (by rw [isSubtype_type]; kernel_rfl)
theorem entry_setattr : entryFor table "object.__setattr__" = some Builtin.«object.__setattr__» := entryFor_of_fast (by kernel_rfl)
theorem fn_read : typeLookup (.type "function") (Str.ofString "read") = pure none := by rw [typeLookup_type, builtinLookup_eq_fast]; kernel_rfl
theorem slot_ci_next : Slot "callable_iterator" (Str.ofString "__next__") "callable_iterator.__next__" :=
  .of (owner := "callable_iterator") (n := "__next__") (by rw [typeLookup_type, builtinLookup_eq_fast]; kernel_rfl) (by decide +kernel) (by decide +kernel) (by decide +kernel)
    (by first | exact .inl (by decide +kernel) | exact .inr (by decide +kernel)) (by rw [isSubtype_type]; kernel_rfl)
theorem slot_ci_iter : Slot "callable_iterator" (Str.ofString "__iter__") "callable_iterator.__iter__" :=
  .of (owner := "callable_iterator") (n := "__iter__") (by rw [typeLookup_type, builtinLookup_eq_fast]; kernel_rfl) (by decide +kernel) (by decide +kernel) (by decide +kernel)
    (by first | exact .inl (by decide +kernel) | exact .inr (by decide +kernel)) (by rw [isSubtype_type]; kernel_rfl)
theorem entry_ci_next : entryFor table "callable_iterator.__next__" = some Builtin.«callable_iterator.__next__» := entryFor_of_fast (by kernel_rfl)
end Mine
end
section
theorem Mine.forget_MyA : True := by
  w_top off
  trivial
open PySem PySem.W PyProof.Rows PySem.Calls PySem.Spec PySem.Builtin PySem.Builtin.ObjectAttr
set_option maxRecDepth 100000
set_option maxHeartbeats 2000000
namespace Mine
section
variable {prog : Program} {w : World} {A : Around} {E : Value → Shared → Prop} {s : Shared} {Q : Unit → Shared → Prop}
theorem setAttr_fn {f : Addr} {fd : FuncData} {v : Value} (hf : s.heap.get? f = some { cls := .type "function", data := .func fd })
   (h : ∀ d hsh tk kt h', d = s.heap.objs.size → h'.get? d = some (dictOf [⟨hsh, .str (Str.ofString "read") kt, v⟩] 1) → h'.get? f = some { cls := .type "function", dict := some d, data := .func fd } →
      (∀ b o, b ≠ f → s.heap.get? b = some o → h'.get? b = some o) → Q () { s with heap := h', toks := tk }) : wpAny (model prog w) A (setAttr (.ref f) (Str.ofString "read") v) Q E s := by
  have hT : ∀ tk, ({ s with toks := tk } : Shared).TypeIs (.ref f) "function" := fun _ => ⟨_, hf, rfl⟩
  have hr := fn_read
  unfold setAttr
  refine wpAny_bind (wpAny_mkText (wpAny_bind (wpAny_callSpecial?_slot (T := "function") (hT _) slot_fn_setattr (wpAny_call_entry slot_fn_setattr (hT _) entry_setattr ?_ (by kernel_rfl)))))
  unfold Builtin.«object.__setattr__»
  wp_walk
  refine wpAny_askSetting ?_
  wp_walk
  have hlt := Heap.lt_size hf
  have hne : f ≠ s.heap.objs.size := fun e => absurd hlt (by rw [e]; exact Nat.lt_irrefl _)
  have hD : ((s.heap.push { cls := Value.type "dict", data := Data.dict #[] }).update f fun o => { cls := o.cls, dict := some s.heap.objs.size, data := o.data, slots := o.slots }).get? s.heap.objs.size = some { cls := Value.type "dict", data := Data.dict #[] } :=
    Heap.get?_update_of_ne _ hne (Heap.get?_push_size _ rfl)
  refine wpAny_loadPart hD ?_
  dsimp only
  rw [if_neg (by decide)]
  refine wpAny_updatePart hD ?_
  refine wpAny_bind (wpAny_lookBehind (Heap.get?_update_self _ hD rfl) ?_ ?_)
  · exact pastItsLine_dict (by show 1 ≤ sizeLine + 1; decide)
  refine wpAny_pure ⟨_, rfl, wpAny_pure ?_⟩
  refine h _ _ _ _ _ rfl (Heap.get?_update_self _ hD rfl) (Heap.get?_update_of_ne _ (Ne.symm hne) (Heap.get?_update_self _ (Heap.get?_push_of_some _ hf) rfl)) fun b o hb e => ?_
  refine Heap.get?_update_of_ne _ ?_ (Heap.get?_update_of_ne _ (Ne.symm hb) (Heap.get?_push_of_some _ e))
  intro q; rw [← q] at e; exact absurd (Heap.lt_size e) (Nat.lt_irrefl _)
variable {h₀ : Heap} {L : Addr} {m : Str → Option Value} {news : List (Addr × Obj)} {g : Obj → List (Addr × Obj)}
theorem setAttr_fnN {f : Addr} {fd : FuncData} {v : Value} (F : Fr h₀ L s.heap m) (N : News h₀ L s.heap news) (U : UpdF f { cls := .type "function", data := .func fd } news g)
   (h : ∀ d hsh tk kt h', Fr h₀ L h' m → News h₀ L h' ((d, dictOf [⟨hsh, .str (Str.ofString "read") kt, v⟩] 1) :: g { cls := .type "function", dict := some d, data := .func fd }) → (∀ p ∈ news, p.1 < d) → Q () { s with heap := h', toks := tk }) :
   wpAny (model prog w) A (setAttr (.ref f) (Str.ofString "read") v) Q E s := by
  obtain ⟨pre, post, rfl, hg, h1, h2⟩ := U.split
  have hm := N (f, _) (List.mem_append_right _ (.head _))
  have hLs : L < s.heap.objs.size := F.ns.lt
  refine setAttr_fn hm.1 fun d hsh tk kt h' hd hd1 hf1 hk => ?_
  have old : ∀ b o, h₀.get? b = some o → h'.get? b = some o := fun b o e => hk b o (fun q => by rw [q, hm.2.2] at e; cases e) (F.keep b o e)
  refine h d hsh tk kt h' ⟨?_, old, F.above⟩ ?_ fun p hp => hd ▸ Heap.lt_size (N p hp).1
  · obtain ⟨oL, es, ep, e, r⟩ := F.ns
    exact ⟨oL, es, ep, hk _ _ (Ne.symm hm.2.1) e, r⟩
  · rw [hg]
    intro q hq
    rcases List.mem_cons.mp hq with rfl | hq
    · exact ⟨hd1, by rw [hd]; exact Nat.ne_of_gt hLs, by rw [hd]; exact next_is_new F⟩
    rcases List.mem_append.mp hq with hq | hq
    · have := N q (List.mem_append_left _ hq)
      exact ⟨hk _ _ (h1 q hq) this.1, this.2⟩
    rcases List.mem_cons.mp hq with rfl | hq
    · exact ⟨hf1, hm.2⟩
    · have := N q (List.mem_append_right _ (List.mem_cons_of_mem _ hq))
      exact ⟨hk _ _ (h2 q hq) this.1, this.2⟩
end
end Mine
end
section
theorem Mine.forget_MyX : True := by
  w_top off
  trivial
open PySem PySem.W PyProof.Rows PySem.Calls PySem.Spec
set_option maxRecDepth 100000
namespace Mine
abbrev wsS : Str := Str.ofString "\n\t\r "
abbrev fnO (fd : FuncData) : Obj := { cls := .type "function", data := .func fd }
abbrev fnD (fd : FuncData) (d : Addr) : Obj := { cls := .type "function", dict := some d, data := .func fd }
/-- the objects of one lexer -/
structure Lx where
  pbL : Addr
  lx : Addr
  dx : Addr
  sd : Addr
  st : Addr
  c2 : Addr
  rd : Addr
  c1 : Addr
  atL : Addr
  cAt : Addr
  cTx : Addr
  oc2 : Obj
  oc1 : Obj
  oAt : Obj
  oTx : Obj
  fst : FuncData
  frd : FuncData
  h1 : Int
  h2 : Int
  h3 : Int
  h4 : Int
  h5 : Int
  k1 : Tok
  k2 : Tok
  k3 : Tok
  k4 : Tok
  k5 : Tok
  tw : Tok
/-- what a lexer's reading changes: the place, the row, the words pushed back (with their tokens) -/
structure Ls where
  pos : Int
  ln : Int
  pb : Array Value
  tp : Tok
  ea : Nat
  tl : Tok
  ep : Nat
abbrev Lx.core (x : Lx) (pos : Int) (tp : Tok) (ea : Nat) : List (Addr × Obj) :=
  [(x.rd, fnO x.frd), (x.c1, x.oc1), (x.atL, listOf #[.int pos tp] ea), (x.cAt, x.oAt), (x.cTx, x.oTx)]
abbrev Lx.more (C : Addr) (x : Lx) (y : Ls) : List (Addr × Obj) :=
  [(x.pbL, listOf y.pb y.ep), (x.lx, instObj C x.dx),
   (x.dx, dictOf [⟨x.h1, .str (Str.ofString "lineno") x.k1, .int y.ln y.tl⟩, ⟨x.h2, .str (Str.ofString "instream") x.k2, .ref x.st⟩, ⟨x.h3, .str (Str.ofString "whitespace") x.k3, .str wsS x.tw⟩, ⟨x.h4, .str (Str.ofString "pushback") x.k4, .ref x.pbL⟩] 4),
   (x.sd, dictOf [⟨x.h5, .str (Str.ofString "read") x.k5, .ref x.rd⟩] 1), (x.st, fnD x.fst x.sd), (x.c2, x.oc2)]
abbrev Lx.led (C : Addr) (x : Lx) (y : Ls) : List (Addr × Obj) := x.core y.pos y.tp y.ea ++ x.more C y
theorem lex_perm {a1 a2 a3 a4 a5 a6 a7 a8 a9 a10 a11 : Addr × Obj} {rest : List (Addr × Obj)} : ∀ p ∈ a7 :: a8 :: a9 :: a10 :: a11 :: a1 :: a2 :: a3 :: a4 :: a5 :: a6 :: rest, p ∈ a1 :: a2 :: a3 :: a4 :: a5 :: a6 :: a7 :: a8 :: a9 :: a10 :: a11 :: rest := by
  intro p hp
  simp only [List.mem_cons] at hp ⊢
  rcases hp with h | h | h | h | h | h | h | h | h | h | h | h <;> simp [h]
structure Lx.Ord (x : Lx) : Prop where
  a1 : @LT.lt Nat _ x.cTx x.cAt
  a2 : @LT.lt Nat _ x.cAt x.atL
  a3 : @LT.lt Nat _ x.atL x.rd
  a4 : @LT.lt Nat _ x.c1 x.cTx ∨ (@LT.lt Nat _ x.atL x.c1 ∧ @LT.lt Nat _ x.c1 x.rd)
  a5 : @LT.lt Nat _ x.rd x.st
  a6 : @LT.lt Nat _ x.c2 x.cTx ∨ (@LT.lt Nat _ x.rd x.c2 ∧ @LT.lt Nat _ x.c2 x.st)
  a7 : @LT.lt Nat _ x.st x.sd
  a8 : @LT.lt Nat _ x.sd x.dx
  a9 : @LT.lt Nat _ x.dx x.lx
  a10 : @LT.lt Nat _ x.lx x.pbL
abbrev ReadOk (prog : Program) (w : World) (K : Frag) (p : Program) (loose : List Str) (mean : ExcName → Option Value) (mg mb : Str → Option Value) (Xt : Heap → Prop) (x : Lx) (text : Str) : Prop :=
  ∀ (pos : Int) (tp : Tok) (ea : Nat) (t : Tok) (rest : List (Addr × Obj)),
    Ctr prog w K p loose mean mg mb Xt x.rd 1 (x.core pos tp ea ++ rest) (0 ≤ pos ∧ pos ≤ text.length ∧ ∀ q ∈ rest, q.1 ≠ x.atL) [.int 1 t]
      (fun v nw => ∃ tv tp', v = .str (Txt.slice text (some pos) (some (pos + 1))) tv ∧ nw = x.core (pos + (Txt.slice text (some pos) (some (pos + 1))).length) tp' ea ++ rest)
end Mine
end
section
theorem Mine.forget_MyG : True := by
  w_top off
  trivial
open PySem PySem.W PyProof.Rows PySem.Calls PySem.Spec PySem.Builtin PySem.Builtin.ObjectAttr
set_option maxRecDepth 100000
set_option maxHeartbeats 2000000
namespace Mine
theorem fn_ga : typeLookup (.type "function") (Str.ofString "__getattribute__") = pure (some (.builtin "object.__getattribute__")) := by rw [typeLookup_type, builtinLookup_eq_fast]; kernel_rfl
theorem fn_gat : typeLookup (.type "function") (Str.ofString "__getattr__") = pure none := by rw [typeLookup_type, builtinLookup_eq_fast]; kernel_rfl
theorem slot_fn_ga : Slot "function" (Str.ofString "__getattribute__") "object.__getattribute__" :=
  .of (owner := "object") (n := "__getattribute__") (by rw [typeLookup_type, builtinLookup_eq_fast]; kernel_rfl) (by decide +kernel) (by decide +kernel) (by decide +kernel)
    (by first | exact .inl (by decide +kernel) | exact .inr (by decide +kernel)) (by rw [isSubtype_type]; kernel_rfl)
theorem entry_ga : entryFor table "object.__getattribute__" = some Builtin.«object.__getattribute__» := entryFor_of_fast (by kernel_rfl)
section
variable {prog : Program} {w : World} {A : Around} {E : Value → Shared → Prop} {s : Shared} {Q : Value × List Value → Shared → Prop} {pl : Sem Bool}
theorem getMethod_fn {f d : Addr} {fd : FuncData} {rd : Addr} {hsh : Int} {kt : Tok} (hf : s.heap.get? f = some (fnD fd d)) (hd : s.heap.get? d = some (dictOf [⟨hsh, .str (Str.ofString "read") kt, .ref rd⟩] 1))
   (h : ∀ tk, Q (.ref rd, []) { s with toks := tk }) : wpAny (model prog w) A (getMethod (.ref f) (Str.ofString "read") pl) Q E s := by
  have hT : ∀ tk, ({ s with toks := tk } : Shared).TypeIs (.ref f) "function" := fun _ => ⟨_, hf, rfl⟩
  have hT0 : s.TypeIs (.ref f) "function" := ⟨_, hf, rfl⟩
  have hr := fn_read
  have hcan := PySem.F.canon_object_ga
  unfold getMethod
  refine wpAny_bind (wpAny_specialOf hT0 fn_ga ?_)
  dsimp only
  rw [hcan, if_neg (by decide)]
  refine wpAny_bind (wpAny_specialOf hT0 fn_gat ?_)
  rw [if_neg (by decide)]
  refine wpAny_bind (wpAny_specialOf hT0 fn_read ?_)
  refine wpAny_bind ?_
  unfold getAttr
  refine wpAny_bind (wpAny_mkText ?_)
  unfold getAttrBy
  refine wpAny_holding (wpAny_bind (wpAny_typeOf (hT _) (wpAny_bind (wpAny_of_eq fn_ga ?_))))
  dsimp only
  rw [if_neg (by decide)]
  unfold getAttrByItsOwn
  wp_walk
  refine wpAny_of_eq (slot_fn_ga.bind _) ?_
  dsimp only
  refine wpAny_call_entry slot_fn_ga (hT _) entry_ga ?_ (by kernel_rfl)
  unfold Builtin.«object.__getattribute__»
  wp_walk
  refine ⟨_, rfl, ?_⟩
  wp_walk
  exact h _
end
end Mine
end
section
theorem Mine.forget_MyI : True := by
  w_top off
  trivial
open PySem PySem.W PyProof.Rows PySem.Calls PySem.Spec PySem.Builtin
set_option maxRecDepth 100000
set_option maxHeartbeats 2000000
namespace Mine
theorem meth_call : typeLookup (.type "method") (Str.ofString "__call__") = pure (some (.builtin "method.__call__")) := by rw [typeLookup_type, builtinLookup_eq_fast]; kernel_rfl
theorem kind_iter : builtinKind "iter" = none := by decide +kernel
theorem plain_iter : plainId "iter" = true := by decide +kernel
theorem entry_iter : entryFor table "iter" = some Builtin.«iter» := entryFor_of_fast (by kernel_rfl)
theorem args_iter2 (a b : Value) : argsOk "iter" ⟨[a, b], []⟩ := by kernel_rfl
theorem args_ci_next (a : Value) : argsOk "callable_iterator.__next__" ⟨[a], []⟩ := by kernel_rfl
theorem args_ci_iter (a : Value) : argsOk "callable_iterator.__iter__" ⟨[a], []⟩ := by kernel_rfl
theorem entry_ci_iter : entryFor table "callable_iterator.__iter__" = some Builtin.«dict_keyiterator.__iter__» :=
  entryFor_alias (id' := "dict_keyiterator.__iter__") (by kernel_rfl) (by first | rfl | decide +kernel | (unfold String.splitOn; simp +decide [String.splitOnAux])) (by decide +kernel) (by kernel_rfl)
abbrev ciO (a b : Value) (e : Bool) : Obj := { cls := .type "callable_iterator", data := .fields #[a, b, .bool e] }
section
variable {prog : Program} {w : World} {A : Around} {E : Value → Shared → Prop} {s : Shared}
theorem call_iter2 {q : Addr} {f self sent : Value} {Q : Value → Shared → Prop} (hq : s.heap.get? q = some (methodObj f self))
    (h : Q (.ref s.heap.objs.size) { s with heap := s.heap.push (ciO (.ref q) sent false) }) : wpAny (model prog w) A (call (.builtin "iter") [.ref q, sent]) Q E s := by
  have hT : s.TypeIs (.ref q) "method" := ⟨_, hq, rfl⟩
  refine Calls.call_function_entry kind_iter plain_iter entry_iter (args_iter2 _ _) ?_
  have hm := meth_call
  unfold Builtin.«iter»
  wp_walk
  exact ⟨_, rfl, h⟩
theorem wpAny_callBorrowed {f : Value} {pos : List Value} {Q : Value → Shared → Prop} {M : Model} (h : wpAny M A (call f pos) Q E s) : wpAny M A (callBorrowed f pos) Q E s := by
  intro Γ p hΓ
  have h1 := h Γ p hΓ
  unfold call at h1
  rw [Sem.wp_runValue] at h1
  unfold callBorrowed
  rw [Sem.wp]
  refine wpCode_mono (fun r s' q => ?_) h1
  cases r with
  | error e => rw [Sem.wp]; exact q
  | ok fl => cases fl <;> first | exact q.elim | (rw [Sem.wp]; exact q)
theorem next_ci {it q f : Addr} {self : Value} {ts : Tok} {Q : Option Value → Shared → Prop} (hit : s.heap.get? it = some (ciO (.ref q) (.str (Str.ofString "") ts) false)) (hq : s.heap.get? q = some (methodObj (.ref f) self)) (hf : FnAt f s.heap)
    (hh : A.handled = none)
    (hc : wpAny (model prog w) A.in1 (call (.ref q) []) (fun v s' => ∃ c tc, v = .str c tc ∧ s'.heap.get? it = some (ciO (.ref q) (.str (Str.ofString "") ts) false) ∧ s'.heap.get? q = some (methodObj (.ref f) self) ∧ FnAt f s'.heap ∧
      (c ≠ Str.ofString "" → ∀ tk, Q (some v) { s' with toks := tk }) ∧ (c = Str.ofString "" → ∀ h' tk, h'.get? it = some (ciO .none .none true) → (∀ b o, b ≠ it → s'.heap.get? b = some o → h'.get? b = some o) → Q none { s' with heap := h', toks := tk })) (fun _ _ => False) s) :
    wpAny (model prog w) A (pyNext (.ref it)) Q E s := by
  have hT : s.TypeIs (.ref it) "callable_iterator" := ⟨_, hit, rfl⟩
  unfold pyNext
  refine wpAny_bind (wpAny_attempt (wpAny_callSpecial?_slot (name := Str.ofString "__next__") hT slot_ci_next (wpAny_call_entry slot_ci_next hT entry_ci_next ?_ (args_ci_next _))))
  unfold Builtin.«callable_iterator.__next__»
  wp_walk
  obtain ⟨oc, od, fd, sl, hf⟩ := hf
  refine wpAny_load hf ?_
  wp_walk
  refine wpAny_callBorrowed (wpAny_mono hc (fun v s' hv => ?_) fun _ _ x => x.elim)
  obtain ⟨c, tc, rfl, hit', hq', hf', k1, k2⟩ := hv
  wp_walk
  refine wpAny_mono (Q := fun b s'' => b = (Str.ofString "" == c) ∧ s'' = s') (E := fun _ _ => False) ?_ (fun b s'' hb => ?_) fun _ _ x => x.elim
  · show wpAny _ _ (if (Value.str (Str.ofString "") ts == Value.str c tc) = true then _ else _) _ _ s'
    refine wpAny_ite ?_
    split
    · rename_i he
      have he := eq_of_beq he
      injection he with e1 e2
      subst e1
      exact wpAny_bind (wpAny_rule (wpAny_pure ⟨by simp, rfl⟩))
    · show wpAny _ _ (richCompare CmpOp.Eq (Value.str (Str.ofString "") ts) (Value.str c tc) >>= fun r => truthOfDropped r) _ _ s'
      refine wpAny_bind (eq_str (prog := prog) (w := w) ?_)
      exact wpAny_truthy_bool ⟨rfl, rfl⟩
  · obtain ⟨rfl, rfl⟩ := hb
    by_cases hc0 : c = Str.ofString ""
    · subst hc0
      rw [if_neg (by simp)]
      wp_walk
      obtain ⟨oc, od, fd, sl, hf'⟩ := hf'
      refine wpAny_load hf' ?_
      wp_walk
      refine wpAny_raiseNew_none hh ?_
      refine wpAny_bind (wpAny_isInstance (T := "StopIteration") (b := true) ⟨_, Heap.get?_push_size _ rfl, rfl⟩ isSubtype_stop ?_)
      refine wpAny_pure (k2 rfl _ _ ?_ ?_)
      · exact Heap.get?_push_of_some _ (Heap.get?_push_of_some _ (Heap.get?_update_self _ (Heap.get?_update_self _ (Heap.get?_update_self _ hit' rfl) rfl) rfl))
      · intro b o hb e
        exact Heap.get?_push_of_some _ (Heap.get?_push_of_some _ (Heap.get?_update_of_ne _ (Ne.symm hb) (Heap.get?_update_of_ne _ (Ne.symm hb) (Heap.get?_update_of_ne _ (Ne.symm hb) e))))
    · rw [if_pos (by simp; exact fun e => hc0 e.symm)]
      wp_walk
      refine ⟨_, rfl, wpAny_pure ?_⟩
      exact k1 hc0 _
theorem next_ci_end {it : Addr} {Q : Option Value → Shared → Prop} (hit : s.heap.get? it = some (ciO .none .none true)) (hh : A.handled = none)
    (h : ∀ h', (∀ b o, s.heap.get? b = some o → h'.get? b = some o) → Q none { s with heap := h' }) : wpAny (model prog w) A (pyNext (.ref it)) Q E s := by
  have hT : s.TypeIs (.ref it) "callable_iterator" := ⟨_, hit, rfl⟩
  unfold pyNext
  refine wpAny_bind (wpAny_attempt (wpAny_callSpecial?_slot (name := Str.ofString "__next__") hT slot_ci_next (wpAny_call_entry slot_ci_next hT entry_ci_next ?_ (args_ci_next _))))
  unfold Builtin.«callable_iterator.__next__»
  wp_walk
  refine wpAny_raiseNew_none hh ?_
  refine wpAny_bind (wpAny_isInstance (T := "StopIteration") (b := true) ⟨_, Heap.get?_push_size _ rfl, rfl⟩ isSubtype_stop ?_)
  exact wpAny_pure (h _ fun b o e => Heap.get?_push_of_some _ (Heap.get?_push_of_some _ e))
theorem iter_ci {it : Addr} {a b : Value} {e : Bool} {Q : Value → Shared → Prop} (hit : s.heap.get? it = some (ciO a b e)) (h : Q (.ref it) s) : wpAny (model prog w) A (pyIter (.ref it)) Q E s := by
  have hT : s.TypeIs (.ref it) "callable_iterator" := ⟨_, hit, rfl⟩
  refine wpAny_pyIter_slot hT slot_ci_iter (wpAny_call_entry slot_ci_iter hT entry_ci_iter ?_ (args_ci_iter _))
  show wpAny _ _ (ret (.ref it)) _ _ s
  exact wpAny_pure ⟨_, rfl, "callable_iterator", _, hT, slot_ci_next.lookup, h⟩
end
end Mine
end
section
theorem Mine.forget_MyFor : True := by
  w_top off
  trivial
open PySem PySem.W PyProof.Rows PySem.Calls PySem.Spec
set_option maxRecDepth 100000
namespace Mine
section
variable {prog : Program} {w : World} {A : Around} {E : Value → Shared → Prop} {Q : Flow → Shared → Prop} {s : Shared} {env : Env} {h₀ : Heap} {L : Addr} {x : Str} {px : Pos} {body : List Stmt}
theorem iter2_N {m : Str → Option Value} {news : List (Addr × Obj)} {q : Addr} {f self sent : Value} {Q : Value → Shared → Prop} (F : Fr h₀ L s.heap m) (N : News h₀ L s.heap news) (hq : (q, methodObj f self) ∈ news)
    (h : ∀ it h', Fr h₀ L h' m → News h₀ L h' ((it, ciO (.ref q) sent false) :: news) → (∀ p ∈ news, p.1 < it) → Q (.ref it) { s with heap := h' }) : wpAny (model prog w) A (call (.builtin "iter") [.ref q, sent]) Q E s :=
  call_iter2 (N _ hq).1 (h _ _ (F.push _) (N.push F _) fun p hp => Heap.lt_size (N p hp).1)
theorem for_all {σ : Type} {it : Value} {m₀ : Str → Option Value} (Led : σ → List (Addr × Obj)) (ps : σ → List (Str × Value)) (P : σ → Prop) (μ : σ → Nat) (Post : σ → Prop) (c₀ : σ)
    (F : Fr h₀ L s.heap m₀) (N : News h₀ L s.heap (Led c₀)) (hk : ∀ p ∈ ps c₀, m₀ p.1 = some p.2) (hp : P c₀)
    (turn : ∀ (c : σ) (u : Str → Option Value) h tk, P c → Fr h₀ L h (kstB u (ps c)) → News h₀ L h (Led c) →
      wpAny (model prog w) A (pyNext it) (fun r s₁ => match r with
        | none => JoinA h₀ L s Led ps Post s₁
        | some v => wpAny (model prog w) A (storeName env x v) (fun _ s₂ => wpAny (model prog w) A (execs body env) (EndA h₀ L s Led ps P μ Post Q c) E s₂) E s₁) E { s with heap := h, toks := tk })
    (next : ∀ (c : σ) (u : Str → Option Value) h tk, Post c → Fr h₀ L h (kstB u (ps c)) → News h₀ L h (Led c) → Q .next { s with heap := h, toks := tk })
    (hE : PassesOwn (model prog w) A env E := by passes_own) :
    codeAny (model prog w) A (.forLoop (.Name x px) it body [] env) (fun r s' => match r with | .ok f => Q f s' | .error e => cameBackBy (model prog w) A env E e s') s := by
  have fin : ∀ s₂, JoinA h₀ L s Led ps Post s₂ → Q .next s₂ := by
    rintro _ ⟨c', h', tk, m', news', rfl, F, N, hn, hk, hp⟩
    refine next c' m' h' tk hp ?_ fun p q => N p (hn p q)
    have em : kstB m' (ps c') = m' := funext fun y => kstB_eq hk fun _ => rfl
    rw [em]; exact F
  refine codeAny_forLoop (fun n s' => ∃ c h₁ tk₁ m₁, s' = { s with heap := h₁, toks := tk₁ } ∧ Fr h₀ L h₁ m₁ ∧ News h₀ L h₁ (Led c) ∧ μ c = n ∧ (∀ p ∈ ps c, m₁ p.1 = some p.2) ∧ P c) ?_ (μ c₀) ⟨c₀, s.heap, s.toks, m₀, rfl, F, N, rfl, hk, hp⟩
  rintro n s' ⟨c, h₁, tk₁, m₁, rfl, F₁, N₁, hn, hk₁, hp₁⟩
  have em : kstB m₁ (ps c) = m₁ := funext fun y => kstB_eq hk₁ fun _ => rfl
  refine wpAny_mono (turn c m₁ h₁ tk₁ hp₁ (by rw [em]; exact F₁) N₁) (fun r s₁ h => ?_) hE
  cases r with
  | none => exact wpAny_execs_nil (fin _ h)
  | some v =>
    refine wpAny_mono (wpAny_assign_Name h) (fun _ s₂ h => ?_) hE
    refine wpAny_mono h (fun f s₃ q => ?_) hE
    cases f with
    | ret v => exact q
    | brk => exact fin _ q
    | next =>
      obtain ⟨c', h', tk', m', news', rfl, F', N', hn', hk9, hp9, hm9⟩ := q
      exact ⟨μ c', hn ▸ hm9, c', h', tk', m', rfl, F', fun p hp => N' p (hn' p hp), rfl, hk9, hp9⟩
    | cont =>
      obtain ⟨c', h', tk', m', news', rfl, F', N', hn', hk9, hp9, hm9⟩ := q
      exact ⟨μ c', hn ▸ hm9, c', h', tk', m', rfl, F', fun p hp => N' p (hn' p hp), rfl, hk9, hp9⟩
end
end Mine
end
section
theorem Mine.forget_MyT : True := by
  w_top off
  trivial
open PySem PySem.W PyProof.Rows PySem.Calls PySem.Spec PySem.Builtin PySem.Builtin.Str
set_option maxRecDepth 100000
namespace Mine
def isWs (c : Nat) : Bool := c == 10 || c == 9 || c == 13 || c == 32
def unq : List Nat → List Nat × List Nat
  | [] => ([], [])
  | c :: r => if isWs c then ([], r) else if c = 92 then (match r with | [] => ([], []) | d :: r' => (d :: (unq r').1, (unq r').2)) else (c :: (unq r).1, (unq r).2)
def gtok : List Nat → List Nat × List Nat
  | [] => ([], [])
  | c :: r => if isWs c then gtok r else unq (c :: r)
def okTok : List Nat → Prop
  | [] => True
  | c :: r => if isWs c then okTok r else c ≠ 34
def nls (l : List Nat) : Int := (l.filter (· == 10)).length
abbrev chAt (text : Str) (pos : Int) : Str := Txt.slice text (some pos) (some (pos + 1))
abbrev txR (text : Str) (pos : Int) : List Nat := (lst text).drop pos.toNat
theorem ofEmpty : Str.ofString "" = ⟨#[]⟩ := by decide +kernel
theorem ch_at {text : Str} {pos : Int} (h0 : 0 ≤ pos) (h1 : pos < text.length) : ∃ c, chAt text pos = ⟨#[c]⟩ ∧ txR text pos = c :: txR text (pos + 1) := by
  have hl : pos.toNat < (lst text).length := by rw [← len_lst]; (first | lia | omega)
  refine ⟨(lst text)[pos.toNat], ?_, ?_⟩
  · have := eq_of_beq (slice_one_closes h0 h1)
    rw [chAt, this]
    simp [lst, Array.getD]
    have : pos.toNat < text.cps.size := by simpa [lst] using hl
    simp [this]
  · have e : (pos + 1).toNat = pos.toNat + 1 := by (first | lia | omega)
    rw [txR, txR, e, List.drop_eq_getElem_cons hl]
theorem ch_end {text : Str} {pos : Int} (h1 : pos = text.length) : chAt text pos = Str.ofString "" ∧ txR text pos = [] := by
  subst h1
  constructor
  · rw [ofEmpty]
    have e := eq_of_beq (slice_closesL (x := text) (i := text.length) (j := text.length) (by (first | lia | omega)) (by (first | lia | omega)) (by (first | lia | omega)))
    have e2 : chAt text text.length = Txt.slice text (some (text.length : Int)) (some (text.length : Int)) := by
      unfold chAt Txt.slice
      have : strSliceIndices (some (text.length : Int)) (some ((text.length : Int) + 1)) 1 text.length = strSliceIndices (some (text.length : Int)) (some (text.length : Int)) 1 text.length := by
        have h0 : ¬ (text.length : Int) < 0 := by (first | lia | omega)
        have h1 : ¬ (text.length : Int) + 1 < 0 := by (first | lia | omega)
        have h2 : (1 : Int) > 0 := by decide
        have h3 : min ((text.length : Int) + 1) text.length = text.length := by (first | lia | omega)
        simp only [strSliceIndices, h0, h1, h2, if_false, if_true, h3, Int.min_self]
      rw [this]
    rw [e2, e]; simp
  · rw [txR, List.drop_eq_nil_of_le]; rw [← len_lst]; (first | lia | omega)
theorem tx_len {text : Str} {pos : Int} (h0 : 0 ≤ pos) (h1 : pos ≤ text.length) : ((txR text pos).length : Int) = text.length - pos := by
  rw [txR, List.length_drop, ← len_lst]; (first | lia | omega)
theorem one_ne_empty (c : Nat) : (⟨#[c]⟩ : Str) ≠ Str.ofString "" := by rw [ofEmpty]; simp
theorem len_one (c : Nat) : (⟨#[c]⟩ : Str).length = 1 := rfl
theorem one_is_nl (c : Nat) : ((⟨#[c]⟩ : Str) = Str.ofString "\n") ↔ c = 10 := by
  rw [show Str.ofString "\n" = ⟨#[10]⟩ from by decide +kernel]; simp
theorem one_is_bs (c : Nat) : ((⟨#[c]⟩ : Str) == Str.ofString "\\") = (c == 92) := by
  rw [show Str.ofString "\\" = ⟨#[92]⟩ from by decide +kernel, one_beq]
theorem one_is_qt (c : Nat) : ((⟨#[c]⟩ : Str) == Str.ofString "\"") = (c == 34) := by
  rw [show Str.ofString "\"" = ⟨#[34]⟩ from by decide +kernel, one_beq]
theorem nls_cons (c : Nat) (l : List Nat) : nls (c :: l) = (if c = 10 then 1 else 0) + nls l := by
  unfold nls
  rw [List.filter_cons]
  by_cases h : c = 10
  · simp [h]; (first | lia | omega)
  · simp [h]
end Mine
namespace Mine
/-- a sign read, an escaped one by the sign behind it -/
def escR (c : Nat) (r : List Nat) : List Nat × List Nat := if c = 92 then (match r with | [] => ([], []) | d :: r' => ([d], r')) else ([c], r)
theorem unq_nil : unq [] = ([], []) := by simp [unq]
theorem unq_esc {c : Nat} {r : List Nat} (h : isWs c = false) : unq (c :: r) = ((escR c r).1 ++ (unq (escR c r).2).1, (unq (escR c r).2).2) := by
  rw [unq.eq_def]
  unfold escR
  simp only [h, Bool.false_eq_true, if_false]
  by_cases hc : c = 92
  · subst hc
    cases r with
    | nil => simp [unq_nil]
    | cons d r' => simp
  · simp [hc]
theorem unq_ws {c : Nat} {r : List Nat} (h : isWs c = true) : unq (c :: r) = ([], r) := by rw [unq.eq_def]; simp [h]
theorem gtok_ws {c : Nat} {r : List Nat} (h : isWs c = true) : gtok (c :: r) = gtok r := by rw [gtok.eq_def]; simp [h]
theorem gtok_no {c : Nat} {r : List Nat} (h : isWs c = false) : gtok (c :: r) = unq (c :: r) := by rw [gtok.eq_def]; simp [h]
theorem okTok_ws {c : Nat} {r : List Nat} (h : isWs c = true) (ho : okTok (c :: r)) : okTok r := by rw [okTok.eq_def] at ho; simpa [h] using ho
theorem okTok_no {c : Nat} {r : List Nat} (h : isWs c = false) (ho : okTok (c :: r)) : c ≠ 34 := by rw [okTok.eq_def] at ho; simpa [h] using ho
theorem esc_len (c : Nat) (r : List Nat) : (escR c r).1.length + (escR c r).2.length ≤ r.length + 1 := by
  unfold escR
  by_cases h : c = 92
  · cases r <;> simp [h] <;> (first | lia | omega)
  · simp [h]; (first | lia | omega)
theorem esc_short (c : Nat) (r : List Nat) : (escR c r).2.length ≤ r.length := by
  unfold escR
  by_cases h : c = 92
  · cases r <;> simp [h]
  · simp [h]
theorem ws_occ (c : Nat) : (Builtin.Str.occurrences wsS ⟨#[c]⟩ 0 wsS.length 1).isEmpty = !(isWs c) := by
  have h := StrLaws.found_one wsS c
  rw [← Bool.not_not (List.isEmpty _), h]
  congr 1
  rw [show wsS.cps.toList = [10, 9, 13, 32] from by decide +kernel, isWs, Bool.eq_iff_iff]
  simp
  try (first | lia | omega)
end Mine
namespace Mine
/-- what stands after a sign and the sign that it may escape -/
structure EscOk (text : Str) (c : Nat) (pos1 ln1 : Int) (e : Str) (pos2 ln2 : Int) : Prop where
  lst : lst e = (escR c (txR text pos1)).1
  tx : txR text pos2 = (escR c (txR text pos1)).2
  p0 : 0 ≤ pos2
  p1 : pos2 ≤ text.length
  l0 : 0 ≤ ln2
  ll : ln2 + (txR text pos2).length ≤ ln1 + (txR text pos1).length
  ls : ln2 + nls (txR text pos2) = ln1 + nls (txR text pos1)
  le : e.length ≤ 1
theorem esc_none {text : Str} {c : Nat} {pos ln : Int} (hc : c ≠ 92) (h0 : 0 ≤ pos) (h1 : pos ≤ text.length) (h2 : 0 ≤ ln) : EscOk text c pos ln ⟨#[c]⟩ pos ln :=
  ⟨by simp [escR, hc, lst], by simp [escR, hc], h0, h1, h2, by (first | lia | omega), rfl, by rw [len_one]; (first | lia | omega)⟩
theorem esc_some {text : Str} {c : Nat} {pos ln : Int} (hc : c = 92) (h0 : 0 ≤ pos) (h1 : pos ≤ text.length) (h2 : 0 ≤ ln) :
    EscOk text c pos ln (chAt text pos) (pos + (chAt text pos).length) (ln + (if chAt text pos = Str.ofString "\n" then 1 else 0)) := by
  subst hc
  rcases Int.lt_or_eq_of_le h1 with h | h
  · obtain ⟨d, hd, hr⟩ := ch_at h0 h
    have hl : (((⟨#[d]⟩ : Str).length : Nat) : Int) = 1 := rfl
    rw [hd, hl]
    refine ⟨?_, ?_, by (first | lia | omega), by (first | lia | omega), ?_, ?_, ?_, by rw [len_one]; (first | lia | omega)⟩
    · rw [hr]; simp [escR, lst]
    · rw [hr]; simp [escR]
    · split <;> (first | lia | omega)
    · rw [hr, List.length_cons]; push_cast; split <;> (first | lia | omega)
    · rw [hr, nls_cons]
      by_cases e : d = 10
      · rw [if_pos ((one_is_nl d).2 e), if_pos e]; (first | lia | omega)
      · rw [if_neg (fun z => e ((one_is_nl d).1 z)), if_neg e]; (first | lia | omega)
  · obtain ⟨e, hr⟩ := ch_end h
    have hl : (((Str.ofString "").length : Nat) : Int) = 0 := by rw [ofEmpty]; rfl
    have hn : ¬ (Str.ofString "" = Str.ofString "\n") := by decide +kernel
    rw [e, hl, if_neg hn, Int.add_zero, Int.add_zero]
    refine ⟨?_, ?_, h0, h1, h2, by (first | lia | omega), rfl, by rw [ofEmpty]; exact Nat.zero_le _⟩
    · rw [hr]; simp [escR, lst, ofEmpty]
    · rw [hr]; simp [escR]
/-- a sign that was read -/
theorem read_post {text : Str} {c : Nat} {pos ln : Int} (h0 : 0 ≤ pos) (h1 : pos < text.length) (hr : txR text pos = c :: txR text (pos + 1)) (h2 : 0 ≤ ln) :
    0 ≤ pos + 1 ∧ pos + 1 ≤ text.length ∧ 0 ≤ ln + (if (⟨#[c]⟩ : Str) = Str.ofString "\n" then 1 else 0) ∧ ln + (if (⟨#[c]⟩ : Str) = Str.ofString "\n" then 1 else 0) + ((txR text (pos + 1)).length : Int) ≤ ln + ((txR text pos).length : Int) ∧
      ln + (if (⟨#[c]⟩ : Str) = Str.ofString "\n" then 1 else 0) + nls (txR text (pos + 1)) = ln + nls (txR text pos) := by
  refine ⟨by (first | lia | omega), by (first | lia | omega), ?_, ?_, ?_⟩
  · split <;> (first | lia | omega)
  · rw [hr, List.length_cons]; push_cast; split <;> (first | lia | omega)
  · rw [hr, nls_cons]
    by_cases e : c = 10
    · rw [if_pos ((one_is_nl c).2 e), if_pos e]; (first | lia | omega)
    · rw [if_neg (fun z => e ((one_is_nl c).1 z)), if_neg e]; (first | lia | omega)
end Mine
end
section
theorem Mine.forget_MyRe : True := by
  w_top off
  trivial
open PySem PySem.Sre
set_option maxRecDepth 100000
namespace Mine
abbrev c1 : Array Nat := #[14, 4, 0, 1, 1, 6, 1, 16, 46, 1]
abbrev c2 : Array Nat := #[14, 9, 4, 1, 2, 16, 10, 16, 13, 0, 7, 7, 16, 13, 16, 10, 15, 18, 5, 16, 10, 15, 13, 11, 16, 13, 5, 5, 0, 16, 10, 1, 15, 2, 0, 1]
/-- the machine's way -/
def Goes (n : Nat) (m m' : M) : Prop := ∀ k, M.runFor (n + k) m = M.runFor k m'
theorem Goes.zero (m : M) : Goes 0 m m := fun k => by rw [Nat.zero_add]
theorem Goes.step {n : Nat} {m m' m1 : M} (ho : m.outcome = none) (hs : m.step = m1) (h : Goes n m1 m') : Goes (n + 1) m m' := fun k => by
  rw [show n + 1 + k = (n + k) + 1 by (first | lia | omega), M.runFor, ho]
  simp only [Option.isSome_none, Bool.false_eq_true, if_false]
  rw [hs]; exact h k
theorem Goes.trans {a b : Nat} {m m1 m2 : M} (h : Goes a m m1) (h' : Goes b m1 m2) : Goes (a + b) m m2 := fun k => by
  rw [show a + b + k = a + (b + k) by (first | lia | omega), h, h']
theorem run_end {m : M} (h : m.outcome.isSome = true) (k : Nat) : M.runFor k m = m := by
  cases k with
  | zero => rfl
  | succ k => rw [M.runFor, h]; rfl
theorem runFor_add (a b : Nat) : ∀ m, M.runFor (a + b) m = M.runFor b (M.runFor a m) := by
  induction a with
  | zero => intro m; rw [Nat.zero_add]; rfl
  | succ a ih =>
    intro m
    rw [show a + 1 + b = (a + b) + 1 by (first | lia | omega), M.runFor, M.runFor]
    split
    · rename_i h; rw [run_end h]
    · exact ih _
/-- at the start of a try -/
abbrev A1 (text : Array Nat) (sn : Seen) (mu out : Bool) (s : Nat) : M :=
  { code := c1, text, lim := text.size, start := s, lastStart := text.size, mustAdvance := mu, pc := 5, pos := s, handed := s, outermost := out, marks := #[],
    frames := [{ wait := .nextStart, pc := 5, pos := s, outermost := out }], weight := 1, seen := sn }
section
variable {text : Array Nat} {sn : Seen} {mu out : Bool} {s : Nat}
theorem st1_at : (A1 text sn mu out s).step = (let m := { A1 text sn mu out s with seen := (sn.add 6).add 44 }; if (s == 0 || text.getD (s - 1) 0 == 10) = true then { m with pc := 7 } else m.say false) := rfl
theorem lit_step {m : M} {c : Nat} (ho : m.outcome = none) (ha : m.answer = none) (hp : m.pc < m.code.size) (hw : m.code.getD m.pc 0 = 16) (hc : m.code.getD (m.pc + 1) 0 = c) :
    m.step = (if m.pos ≥ m.lim then M.say { m with seen := m.seen.add 16 } false else if (m.text.getD m.pos 0 == c) = true then { m with seen := m.seen.add 16, pc := m.pc + 2, pos := m.pos + 1 } else M.say { m with seen := m.seen.add 16 } false) := by
  have e1 : m.word 0 = 16 := hw
  have e2 : ops[16]? = some .LITERAL := rfl
  have e3 : accepts m.code m.pc (m.text.getD m.pos 0) (m.seen.add 16) = .ok (m.text.getD m.pos 0 == c, m.seen.add 16) := by
    unfold accepts; rw [hw, hc]; rfl
  have e4 : itemWidth m.code m.pc = 2 := by unfold itemWidth; rw [hw]; rfl
  unfold M.step M.exec
  rw [ho, ha, if_pos hp, e1, e2]
  simp only [Option.isSome_none, Bool.false_eq_true, if_false]
  rw [e3, e4]
  split
  · rfl
  · cases m.text.getD m.pos 0 == c <;> rfl
theorem succ_step {m : M} (ho : m.outcome = none) (ha : m.answer = none) (hp : m.pc < m.code.size) (hw : m.code.getD m.pc 0 = 1) (hx : m.wholeText = false) (hm : (m.pos == m.start) = false) :
    m.step = M.say { m with seen := m.seen.add 1, handed := m.pos } true := by
  have e1 : m.word 0 = 1 := hw
  have e2 : ops[1]? = some .SUCCESS := rfl
  unfold M.step M.exec
  rw [ho, ha, if_pos hp, e1, e2]
  simp only [Option.isSome_none, Bool.false_eq_true, if_false]
  rw [hx, hm]
  simp
theorem fail1 {q : Nat} : M.step (M.say { A1 text sn mu out s with pc := q } false) = if s < text.size then A1 text sn false false (s + 1) else M.say { A1 text sn mu out s with frames := [], weight := 0, pc := 5 } false := rfl
theorem over1 : M.step (M.say { A1 text sn mu out s with frames := [], weight := 0, pc := 5 } false) = { A1 text sn mu out s with frames := [], weight := 0, pc := 5, answer := some false, outcome := some .failed } := rfl
theorem good1 {q p hd : Nat} : M.step (M.say { A1 text sn mu out s with pc := q, pos := p, handed := hd } true) = M.say { A1 text sn mu out s with frames := [], weight := 0, pc := 5, handed := hd } true := rfl
theorem goodO {q hd : Nat} : M.step (M.say { A1 text sn mu out s with frames := [], weight := 0, pc := q, handed := hd } true) = { A1 text sn mu out s with frames := [], weight := 0, pc := q, handed := hd, answer := some true, outcome := some .matched } := rfl
end
def dot1 (text : Array Nat) (s : Nat) : Bool := (s == 0 || text.getD (s - 1) 0 == 10) && (decide (s < text.size) && text.getD s 0 == 46)
section
variable {text : Array Nat}
theorem try1_no {sn : Seen} {mu out : Bool} {s : Nat} (h : dot1 text s = false) : ∃ sn' q n, n ≤ 2 ∧ Goes n (A1 text sn mu out s) (M.say { A1 text sn' mu out s with pc := q } false) := by
  unfold dot1 at h
  cases hb : (s == 0 || text.getD (s - 1) 0 == 10) with
  | false =>
    refine ⟨(sn.add 6).add 44, 5, 1, by (first | lia | omega), Goes.step rfl ?_ (Goes.zero _)⟩
    rw [st1_at, hb]; rfl
  | true =>
    rw [hb, Bool.true_and] at h
    refine ⟨((sn.add 6).add 44).add 16, 7, 2, by (first | lia | omega), Goes.step rfl (m1 := { A1 text ((sn.add 6).add 44) mu out s with pc := 7 }) ?_ (Goes.step rfl ?_ (Goes.zero _))⟩
    · rw [st1_at, hb]; rfl
    · rw [lit_step (c := 46) rfl rfl (Nat.le_of_ble_eq_true rfl) rfl rfl]
      by_cases hs : s < text.size
      · rw [if_neg (by simpa using hs)]
        rw [show (text.getD s 0 == 46) = false by simpa [hs] using h]; rfl
      · rw [if_pos (by simpa using hs)]
theorem try1_yes {sn : Seen} {mu out : Bool} {s : Nat} (h : dot1 text s = true) : ∃ m', Goes 5 (A1 text sn mu out s) m' ∧ m'.outcome = some .matched ∧ m'.start = s ∧ m'.handed = s + 1 := by
  unfold dot1 at h
  simp only [Bool.and_eq_true, decide_eq_true_eq] at h
  obtain ⟨hb, hs, hc⟩ := h
  refine ⟨_, Goes.step rfl (m1 := { A1 text ((sn.add 6).add 44) mu out s with pc := 7 }) ?_ (Goes.step rfl (m1 := { A1 text (((sn.add 6).add 44).add 16) mu out s with pc := 9, pos := s + 1 }) ?_ (Goes.step rfl (succ_step rfl rfl (Nat.le_of_ble_eq_true rfl) rfl rfl ?_) (Goes.step rfl good1 (Goes.step rfl goodO (Goes.zero _))))), rfl, rfl, rfl⟩
  · rw [st1_at, hb]; rfl
  · rw [lit_step (c := 46) rfl rfl (Nat.le_of_ble_eq_true rfl) rfl rfl, if_neg (by simpa using hs), if_pos hc]
  · show (s + 1 == s) = false
    simp
theorem find1_yes {t : Nat} (ht : dot1 text t = true) : ∀ (d : Nat) (sn : Seen) (mu out : Bool) (s : Nat), s + d = t → (∀ i, s ≤ i → i < t → dot1 text i = false) → ∃ n m', n ≤ 3 * d + 5 ∧ Goes n (A1 text sn mu out s) m' ∧ m'.outcome = some .matched ∧ m'.start = t ∧ m'.handed = t + 1 := by
  have htl : t < text.size := by unfold dot1 at ht; simp only [Bool.and_eq_true, decide_eq_true_eq] at ht; exact ht.2.1
  intro d
  induction d with
  | zero =>
    intro sn mu out s hs hn
    have : s = t := by (first | lia | omega)
    subst this
    obtain ⟨m', h1, h2⟩ := try1_yes (sn := sn) (mu := mu) (out := out) ht
    exact ⟨5, m', by (first | lia | omega), h1, h2⟩
  | succ d ih =>
    intro sn mu out s hs hn
    obtain ⟨sn', q, n, hn2, hg⟩ := try1_no (sn := sn) (mu := mu) (out := out) (hn s (Nat.le_refl _) (by (first | lia | omega)))
    obtain ⟨n', m', hn', hg', hr⟩ := ih sn' false false (s + 1) (by (first | lia | omega)) (fun i h1 h2 => hn i (by (first | lia | omega)) h2)
    refine ⟨n + (n' + 1), m', by (first | lia | omega), hg.trans (Goes.step rfl ?_ hg'), hr⟩
    rw [fail1, if_pos (by (first | lia | omega))]
theorem find1_no : ∀ (d : Nat) (sn : Seen) (mu out : Bool) (s : Nat), s + d = text.size → (∀ i, s ≤ i → dot1 text i = false) → ∃ n m', n ≤ 3 * d + 5 ∧ Goes n (A1 text sn mu out s) m' ∧ m'.outcome = some .failed := by
  intro d
  induction d with
  | zero =>
    intro sn mu out s hs hn
    obtain ⟨sn', q, n, hn2, hg⟩ := try1_no (sn := sn) (mu := mu) (out := out) (hn s (Nat.le_refl _))
    refine ⟨n + 2, _, by (first | lia | omega), hg.trans (Goes.step rfl (m1 := M.say { A1 text sn' mu out s with frames := [], weight := 0, pc := 5 } false) ?_ (Goes.step rfl over1 (Goes.zero _))), rfl⟩
    rw [fail1, if_neg (by (first | lia | omega))]
  | succ d ih =>
    intro sn mu out s hs hn
    obtain ⟨sn', q, n, hn2, hg⟩ := try1_no (sn := sn) (mu := mu) (out := out) (hn s (Nat.le_refl _))
    obtain ⟨n', m', hn', hg', hr⟩ := ih sn' false false (s + 1) (by (first | lia | omega)) (fun i h1 => hn i (by (first | lia | omega)))
    refine ⟨n + (n' + 1), m', by (first | lia | omega), hg.trans (Goes.step rfl ?_ hg'), hr⟩
    rw [fail1, if_pos (by (first | lia | omega))]
/-- the first search -/
theorem search1 {s : Nat} {mu : Bool} (hs : s < text.size) : forSearch c1 text 0 s text.size mu = A1 text (({} : Seen).add 14) mu true s := by
  unfold forSearch
  have h1 : (s > text.size || text.size - s < (header c1).1) = false := by
    show (decide (s > text.size) || decide (text.size - s < 1)) = false
    simp; (first | lia | omega)
  simp only [h1, Bool.false_eq_true, if_false]
  rfl
theorem search1_end {s : Nat} {mu : Bool} (hs : s = text.size) : ∃ m, forSearch c1 text 0 s text.size mu = m ∧ m.outcome = none ∧ m.step.outcome = some .failed := by
  have h1 : (s > text.size || text.size - s < (header c1).1) = true := by
    show (decide (s > text.size) || decide (text.size - s < 1)) = true
    simp; (first | lia | omega)
  refine ⟨_, rfl, ?_⟩
  unfold forSearch
  simp only [h1, if_true]
  exact ⟨rfl, rfl⟩
end
/-- it comes to an end -/
def Ends (b : Nat) (m : M) (P : M → Prop) : Prop := ∃ n m', n ≤ b ∧ Goes n m m' ∧ P m'
theorem Ends.step {b : Nat} {m m1 : M} {P : M → Prop} (ho : m.outcome = none) (hs : m.step = m1) (h : Ends b m1 P) : Ends (b + 1) m P := by
  obtain ⟨n, m', h1, h2, h3⟩ := h
  exact ⟨n + 1, m', by (first | lia | omega), Goes.step ho hs h2, h3⟩
theorem Ends.done {b : Nat} {m : M} {P : M → Prop} (h : P m) : Ends b m P := ⟨0, m, Nat.zero_le _, Goes.zero _, h⟩
theorem lit_yes {m : M} {c : Nat} (ho : m.outcome = none) (ha : m.answer = none) (hp : m.pc < m.code.size) (hw : m.code.getD m.pc 0 = 16) (hc : m.code.getD (m.pc + 1) 0 = c) (h1 : m.pos < m.lim) (h2 : m.text.getD m.pos 0 = c) :
    m.step = { m with seen := m.seen.add 16, pc := m.pc + 2, pos := m.pos + 1 } := by
  rw [lit_step ho ha hp hw hc, if_neg (by (first | lia | omega)), if_pos (by simp [h2])]
theorem lit_no {m : M} {c : Nat} (ho : m.outcome = none) (ha : m.answer = none) (hp : m.pc < m.code.size) (hw : m.code.getD m.pc 0 = 16) (hc : m.code.getD (m.pc + 1) 0 = c) (h : m.pos < m.lim → m.text.getD m.pos 0 ≠ c) :
    m.step = M.say { m with seen := m.seen.add 16 } false := by
  rw [lit_step ho ha hp hw hc]
  by_cases h1 : m.pos ≥ m.lim
  · rw [if_pos h1]
  · rw [if_neg h1, if_neg (by simpa using h (by (first | lia | omega)))]
abbrev A2 (text : Array Nat) (sn : Seen) (mu out : Bool) (s : Nat) : M :=
  { code := c2, text, lim := text.size, start := s, lastStart := text.size, mustAdvance := mu, pc := 10, pos := s, handed := s, outermost := out, marks := #[],
    frames := [{ wait := .nextStart, pc := 10, pos := s, outermost := out }], weight := 1, seen := sn }
section
variable {text : Array Nat} {sn : Seen} {mu out : Bool} {t : Nat}
theorem try2_nl (ht : t < text.size) (h : text.getD t 0 = 10) : Ends 15 (A2 text sn mu out t) (fun m' => m'.outcome = some .matched ∧ m'.start = t ∧ m'.handed = t + 1) := by
  have ne : text.getD t 0 ≠ 13 := by (first | lia | omega)
  refine Ends.step rfl (m1 := { A2 text (sn.add 7) mu out t with pc := 12, frames := [{ wait := .nextBranch, pc := 11, pos := t, outermost := out }, { wait := .nextStart, pc := 10, pos := t, outermost := out }], weight := 2 }) rfl ?_
  refine Ends.step rfl (lit_no (c := 13) rfl rfl (Nat.le_of_ble_eq_true rfl) rfl rfl (fun _ => ne)) ?_
  refine Ends.step rfl (m1 := { A2 text ((sn.add 7).add 16) mu out t with pc := 19, frames := [{ wait := .nextBranch, pc := 18, pos := t, outermost := out }, { wait := .nextStart, pc := 10, pos := t, outermost := out }], weight := 2 }) rfl ?_
  refine Ends.step rfl (lit_yes (c := 10) rfl rfl (Nat.le_of_ble_eq_true rfl) rfl rfl ht h) ?_
  refine Ends.step rfl (m1 := { A2 text ((((sn.add 7).add 16).add 16).add 15) mu out t with pc := 35, pos := t + 1, frames := [{ wait := .nextBranch, pc := 18, pos := t, outermost := out }, { wait := .nextStart, pc := 10, pos := t, outermost := out }], weight := 2 }) rfl ?_
  refine Ends.step rfl (succ_step rfl rfl (Nat.le_of_ble_eq_true rfl) rfl rfl (by show (t + 1 == t) = false; simp)) ?_
  refine Ends.step rfl rfl ?_
  refine Ends.step rfl rfl ?_
  refine Ends.step rfl rfl ?_
  exact Ends.done ⟨rfl, rfl, rfl⟩
theorem try2_crlf (ht : t + 1 < text.size) (h : text.getD t 0 = 13) (h' : text.getD (t + 1) 0 = 10) : Ends 15 (A2 text sn mu out t) (fun m' => m'.outcome = some .matched ∧ m'.start = t ∧ m'.handed = t + 2) := by
  refine Ends.step rfl (m1 := { A2 text (sn.add 7) mu out t with pc := 12, frames := [{ wait := .nextBranch, pc := 11, pos := t, outermost := out }, { wait := .nextStart, pc := 10, pos := t, outermost := out }], weight := 2 }) rfl ?_
  refine Ends.step rfl (lit_yes (c := 13) rfl rfl (Nat.le_of_ble_eq_true rfl) rfl rfl (Nat.lt_of_succ_lt ht) h) ?_
  refine Ends.step rfl (lit_yes (c := 10) rfl rfl (Nat.le_of_ble_eq_true rfl) rfl rfl ht h') ?_
  refine Ends.step rfl (m1 := { A2 text ((((sn.add 7).add 16).add 16).add 15) mu out t with pc := 35, pos := t + 2, frames := [{ wait := .nextBranch, pc := 11, pos := t, outermost := out }, { wait := .nextStart, pc := 10, pos := t, outermost := out }], weight := 2 }) rfl ?_
  refine Ends.step rfl (succ_step rfl rfl (Nat.le_of_ble_eq_true rfl) rfl rfl (by show (t + 2 == t) = false; simp)) ?_
  refine Ends.step rfl rfl ?_
  refine Ends.step rfl rfl ?_
  refine Ends.step rfl rfl ?_
  exact Ends.done ⟨rfl, rfl, rfl⟩
theorem try2_cr (ht : t < text.size) (h : text.getD t 0 = 13) (h' : t + 1 < text.size → text.getD (t + 1) 0 ≠ 10) : Ends 18 (A2 text sn mu out t) (fun m' => m'.outcome = some .matched ∧ m'.start = t ∧ m'.handed = t + 1) := by
  have ne : text.getD t 0 ≠ 10 := by (first | lia | omega)
  refine Ends.step rfl (m1 := { A2 text (sn.add 7) mu out t with pc := 12, frames := [{ wait := .nextBranch, pc := 11, pos := t, outermost := out }, { wait := .nextStart, pc := 10, pos := t, outermost := out }], weight := 2 }) rfl ?_
  refine Ends.step rfl (lit_yes (c := 13) rfl rfl (Nat.le_of_ble_eq_true rfl) rfl rfl ht h) ?_
  refine Ends.step rfl (lit_no (c := 10) rfl rfl (Nat.le_of_ble_eq_true rfl) rfl rfl h') ?_
  refine Ends.step rfl (m1 := { A2 text (((sn.add 7).add 16).add 16) mu out t with pc := 19, frames := [{ wait := .nextBranch, pc := 18, pos := t, outermost := out }, { wait := .nextStart, pc := 10, pos := t, outermost := out }], weight := 2 }) rfl ?_
  refine Ends.step rfl (lit_no (c := 10) rfl rfl (Nat.le_of_ble_eq_true rfl) rfl rfl (fun _ => ne)) ?_
  refine Ends.step rfl (m1 := { A2 text ((((sn.add 7).add 16).add 16).add 16) mu out t with pc := 24, frames := [{ wait := .nextBranch, pc := 23, pos := t, outermost := out }, { wait := .nextStart, pc := 10, pos := t, outermost := out }], weight := 2 }) rfl ?_
  refine Ends.step rfl (lit_yes (c := 13) rfl rfl (Nat.le_of_ble_eq_true rfl) rfl rfl ht h) ?_
  refine Ends.step rfl (m1 := { A2 text ((((((sn.add 7).add 16).add 16).add 16).add 16).add 5) mu out t with pc := 29, pos := t + 1, handed := t + 1, outermost := false, frames := [{ wait := .lookNot, pc := 26, pos := t + 1, outermost := out }, { wait := .nextBranch, pc := 23, pos := t, outermost := out }, { wait := .nextStart, pc := 10, pos := t, outermost := out }], weight := 3 }) rfl ?_
  refine Ends.step rfl (lit_no (c := 10) rfl rfl (Nat.le_of_ble_eq_true rfl) rfl rfl h') ?_
  refine Ends.step rfl rfl ?_
  refine Ends.step rfl (m1 := { A2 text ((((((((sn.add 7).add 16).add 16).add 16).add 16).add 5).add 16).add 15) mu out t with pc := 35, pos := t + 1, handed := t + 1, frames := [{ wait := .nextBranch, pc := 23, pos := t, outermost := out }, { wait := .nextStart, pc := 10, pos := t, outermost := out }], weight := 2 }) rfl ?_
  refine Ends.step rfl (succ_step rfl rfl (Nat.le_of_ble_eq_true rfl) rfl rfl (by show (t + 1 == t) = false; simp)) ?_
  refine Ends.step rfl rfl ?_
  refine Ends.step rfl rfl ?_
  refine Ends.step rfl rfl ?_
  exact Ends.done ⟨rfl, rfl, rfl⟩
end
abbrev eol (c : Nat) : Bool := c == 10 || c == 13
section
variable {text : Array Nat}
theorem inSet2 (c : Nat) (sn : Seen) : inSet c2 c 36 5 true sn = if (c == 10) = true then .ok (true, sn.add 16) else if (c == 13) = true then .ok (true, (sn.add 16).add 16) else .ok (false, ((sn.add 16).add 16).add 0) := rfl
theorem inSet2_yes {c : Nat} (h : eol c = true) (sn : Seen) : ∃ sn', inSet c2 c 36 5 true sn = .ok (true, sn') := by
  rw [inSet2]
  by_cases h1 : (c == 10) = true
  · exact ⟨_, if_pos h1⟩
  · have h2 : (c == 13) = true := by simpa [eol, h1] using h
    exact ⟨_, by rw [if_neg h1, if_pos h2]⟩
theorem inSet2_no {c : Nat} (h : eol c = false) (sn : Seen) : ∃ sn', inSet c2 c 36 5 true sn = .ok (false, sn') := by
  rw [inSet2]
  simp only [eol, Bool.or_eq_false_iff] at h
  exact ⟨_, by rw [if_neg (by simp [h.1]), if_neg (by simp [h.2])]⟩
theorem admit_yes {m : M} (hc : m.code = c2) (hx : m.text = text) (hl : m.lim = text.size) {t : Nat} (ht : t < text.size) (he : eol (text.getD t 0) = true) : ∀ (d f s : Nat) (sn : Seen), s + d = t → d < f → (∀ i, s ≤ i → i < t → eol (text.getD i 0) = false) →
    ∃ sn', M.admitted m f s sn = .ok (some t, sn') := by
  intro d
  induction d with
  | zero =>
    intro f s sn hs hf hn
    obtain ⟨f, rfl⟩ : ∃ g, f = g + 1 := ⟨f - 1, by (first | lia | omega)⟩
    have e : s = t := by (first | lia | omega)
    subst e
    obtain ⟨sn', h2⟩ := inSet2_yes he sn
    refine ⟨sn', ?_⟩
    unfold M.admitted
    rw [if_neg (by rw [hl]; (first | lia | omega)), hc, hx]
    show (match inSet c2 (text.getD s 0) 36 5 true sn with | .ok (true, seen) => _ | .ok (false, seen) => _ | .error why => _) = _
    rw [h2]
  | succ d ih =>
    intro f s sn hs hf hn
    obtain ⟨f, rfl⟩ : ∃ g, f = g + 1 := ⟨f - 1, by (first | lia | omega)⟩
    obtain ⟨sn', h2⟩ := inSet2_no (hn s (Nat.le_refl _) (by (first | lia | omega))) sn
    obtain ⟨sn2, h3⟩ := ih f (s + 1) sn' (by (first | lia | omega)) (by (first | lia | omega)) (fun i a b => hn i (by (first | lia | omega)) b)
    refine ⟨sn2, ?_⟩
    unfold M.admitted
    rw [if_neg (by rw [hl]; (first | lia | omega)), hc, hx]
    show (match inSet c2 (text.getD s 0) 36 5 true sn with | .ok (true, seen) => _ | .ok (false, seen) => _ | .error why => _) = _
    rw [h2]; exact h3
theorem admit_no {m : M} (hc : m.code = c2) (hx : m.text = text) (hl : m.lim = text.size) : ∀ (f s : Nat) (sn : Seen), (∀ i, s ≤ i → i < text.size → eol (text.getD i 0) = false) →
    ∃ sn', M.admitted m f s sn = .ok (none, sn') := by
  intro f
  induction f with
  | zero => intro s sn _; exact ⟨_, rfl⟩
  | succ f ih =>
    intro s sn hn
    unfold M.admitted
    by_cases hs : s < text.size
    · obtain ⟨sn', h2⟩ := inSet2_no (hn s (Nat.le_refl _) hs) sn
      obtain ⟨sn2, h3⟩ := ih (s + 1) sn' (fun i a b => hn i (by (first | lia | omega)) b)
      refine ⟨sn2, ?_⟩
      rw [if_neg (by rw [hl]; (first | lia | omega)), hc, hx]
      show (match inSet c2 (text.getD s 0) 36 5 true sn with | .ok (true, seen) => _ | .ok (false, seen) => _ | .error why => _) = _
      rw [h2]; exact h3
    · exact ⟨_, by rw [if_pos (by rw [hl]; (first | lia | omega))]⟩
theorem header2 : header c2 = (1, 10) := rfl
abbrev B2 (text : Array Nat) (mu : Bool) (s : Nat) : M :=
  { code := c2, text, lim := text.size, start := s, lastStart := text.size, mustAdvance := mu, pc := 10, pos := s, handed := s, marks := #[], seen := ({} : Seen).add 14 }
theorem search2 {s : Nat} {mu : Bool} (hs : s < text.size) : forSearch c2 text 0 s text.size mu =
    (match M.admitted (B2 text mu s) (text.size + 1 - s) s (({} : Seen).add 14) with
      | .ok (some s', seen) => M.attemptAt { B2 text mu s with mustAdvance := false, seen } s' true
      | .ok (none, seen) => M.say { B2 text mu s with seen } false
      | .error why => M.stick (B2 text mu s) why) := by
  unfold forSearch
  have h1 : (s > text.size || text.size - s < (header c2).1) = false := by
    show (decide (s > text.size) || decide (text.size - s < 1)) = false
    simp; (first | lia | omega)
  simp only [h1, Bool.false_eq_true, if_false]
  rfl
theorem search2_yes {s t : Nat} {mu : Bool} (hs : s ≤ t) (ht : t < text.size) (he : eol (text.getD t 0) = true) (hn : ∀ i, s ≤ i → i < t → eol (text.getD i 0) = false) :
    ∃ sn, forSearch c2 text 0 s text.size mu = A2 text sn false true t := by
  rw [search2 (by (first | lia | omega))]
  obtain ⟨sn, h⟩ := admit_yes (m := B2 text mu s) rfl rfl rfl ht he (t - s) (text.size + 1 - s) s (({} : Seen).add 14) (by (first | lia | omega)) (by (first | lia | omega)) hn
  rw [h]
  exact ⟨sn, rfl⟩
theorem search2_no {s : Nat} {mu : Bool} (hs : s < text.size) (hn : ∀ i, s ≤ i → i < text.size → eol (text.getD i 0) = false) :
    Ends 1 (forSearch c2 text 0 s text.size mu) (fun m' => m'.outcome = some .failed) := by
  rw [search2 hs]
  obtain ⟨sn, h⟩ := admit_no (m := B2 text mu s) rfl rfl rfl (text.size + 1 - s) s (({} : Seen).add 14) hn
  rw [h]
  refine Ends.step rfl rfl ?_
  exact Ends.done rfl
theorem search2_end {s : Nat} {mu : Bool} (hs : s = text.size) : Ends 1 (forSearch c2 text 0 s text.size mu) (fun m' => m'.outcome = some .failed) := by
  have h1 : (s > text.size || text.size - s < (header c2).1) = true := by
    show (decide (s > text.size) || decide (text.size - s < 1)) = true
    simp; (first | lia | omega)
  unfold forSearch
  simp only [h1, if_true]
  refine Ends.step rfl rfl ?_
  exact Ends.done rfl
/-- how wide the line end at t is -/
def eolW (text : Array Nat) (t : Nat) : Nat := if text.getD t 0 = 13 ∧ t + 1 < text.size ∧ text.getD (t + 1) 0 = 10 then 2 else 1
theorem found2 {s t : Nat} {mu : Bool} (hs : s ≤ t) (ht : t < text.size) (he : eol (text.getD t 0) = true) (hn : ∀ i, s ≤ i → i < t → eol (text.getD i 0) = false) :
    Ends 18 (forSearch c2 text 0 s text.size mu) (fun m' => m'.outcome = some .matched ∧ m'.start = t ∧ m'.handed = t + eolW text t) := by
  obtain ⟨sn, h⟩ := search2_yes (mu := mu) hs ht he hn
  rw [h]
  simp only [eol, Bool.or_eq_true, beq_iff_eq] at he
  unfold eolW
  rcases he with he | he
  · rw [if_neg (by (first | lia | omega))]
    obtain ⟨n, m', h1, h2⟩ := try2_nl (sn := sn) (mu := false) (out := true) ht he
    exact ⟨n, m', by (first | lia | omega), h2⟩
  · by_cases h2 : t + 1 < text.size ∧ text.getD (t + 1) 0 = 10
    · rw [if_pos ⟨he, h2⟩]
      obtain ⟨n, m', h1, h2⟩ := try2_crlf (sn := sn) (mu := false) (out := true) h2.1 he h2.2
      exact ⟨n, m', by (first | lia | omega), h2⟩
    · rw [if_neg (fun x => h2 x.2)]
      exact try2_cr ht he (fun a b => h2 ⟨a, b⟩)
theorem lost2 {s : Nat} {mu : Bool} (hs : s ≤ text.size) (hn : ∀ i, s ≤ i → i < text.size → eol (text.getD i 0) = false) :
    Ends 18 (forSearch c2 text 0 s text.size mu) (fun m' => m'.outcome = some .failed) := by
  rcases Nat.lt_or_eq_of_le hs with h | h
  · obtain ⟨n, m', h1, h2⟩ := search2_no (mu := mu) h hn
    exact ⟨n, m', by (first | lia | omega), h2⟩
  · obtain ⟨n, m', h1, h2⟩ := search2_end (mu := mu) h
    exact ⟨n, m', by (first | lia | omega), h2⟩
theorem found1 {s t : Nat} {mu : Bool} (hs : s ≤ t) (ht : dot1 text t = true) (hn : ∀ i, s ≤ i → i < t → dot1 text i = false) :
    Ends (3 * text.size + 5) (forSearch c1 text 0 s text.size mu) (fun m' => m'.outcome = some .matched ∧ m'.start = t ∧ m'.handed = t + 1) := by
  have htl : t < text.size := by unfold dot1 at ht; simp only [Bool.and_eq_true, decide_eq_true_eq] at ht; exact ht.2.1
  rw [search1 (by (first | lia | omega))]
  obtain ⟨n, m', h1, h2⟩ := find1_yes ht (t - s) (({} : Seen).add 14) mu true s (by (first | lia | omega)) hn
  exact ⟨n, m', by (first | lia | omega), h2⟩
theorem lost1 {s : Nat} {mu : Bool} (hs : s ≤ text.size) (hn : ∀ i, s ≤ i → dot1 text i = false) :
    Ends (3 * text.size + 5) (forSearch c1 text 0 s text.size mu) (fun m' => m'.outcome = some .failed) := by
  rcases Nat.lt_or_eq_of_le hs with h | h
  · rw [search1 h]
    obtain ⟨n, m', h1, h2⟩ := find1_no (text := text) (text.size - s) (({} : Seen).add 14) mu true s (by (first | lia | omega)) hn
    exact ⟨n, m', by (first | lia | omega), h2⟩
  · obtain ⟨m, h1, h2, h3⟩ := search1_end (mu := mu) h
    rw [h1]
    exact ⟨1, _, by (first | lia | omega), Goes.step h2 rfl (Goes.zero _), h3⟩
end
end Mine
end
section
theorem Mine.forget_MyRw : True := by
  w_top off
  trivial
open PySem PySem.W PyProof.Rows PySem.Calls PySem.Spec PySem.Builtin PySem.Builtin.Re
open PySem.Sre (M)
set_option maxRecDepth 100000
namespace Mine
section
variable {Md : Model} {A : Around} {E : Value → Shared → Prop} {s : Shared}
theorem wp_reDrive {P : M → Prop} (hP : ∀ m', P m' → m'.outcome.isSome = true) {Q : M → Shared → Prop} (hQ : ∀ m', P m' → Q m' s) : ∀ (turns : Nat) (m : M), 0 < turns → Ends (4 * turns) m P → wpAny Md A (reDrive turns m) Q E s := by
  intro turns
  induction turns with
  | zero => intro m h; omega
  | succ turns ih =>
    rintro m - ⟨n, m', hn, hg, hp⟩
    have hk : ∀ k, M.runFor k m' = m' := run_end (hP m' hp)
    unfold reDrive
    by_cases h4 : n ≤ 4
    · have e : M.runFor reTurnSteps m = m' := by
        have := hg (4 - n)
        rw [show n + (4 - n) = 4 by omega, hk] at this
        exact this
      simp only [e, hP m' hp, if_true]
      wp_walk
      exact hQ _ hp
    · have hr : ∀ k, M.runFor (n - 4 + k) (M.runFor reTurnSteps m) = M.runFor k m' := by
        intro k
        show M.runFor (n - 4 + k) (M.runFor 4 m) = _
        rw [← runFor_add, show 4 + (n - 4 + k) = n + k by omega]; exact hg k
      by_cases ho : (M.runFor reTurnSteps m).outcome.isSome = true
      · have e : M.runFor reTurnSteps m = m' := by
          have := hr 0
          rw [run_end ho, hk] at this; exact this
        simp only [ho, if_true]
        wp_walk
        rw [e]; exact hQ _ hp
      · simp only [ho, if_false]
        wp_walk
        exact ih _ (by omega) ⟨n - 4, m', by omega, hr, hp⟩
theorem wp_tell {f : Nat → Bool} {g : Nat → String} {Q : PUnit → Shared → Prop} (h : Q PUnit.unit s) : ∀ l : List Nat, wpAny Md A (forIn l PUnit.unit fun i __s => if f i = true then do rule (g i); pure (ForInStep.yield PUnit.unit) else pure (ForInStep.yield PUnit.unit)) Q E s := by
  intro l
  induction l with
  | nil => rw [List.forIn_nil]; wp_walk; exact h
  | cons i l ih =>
    rw [List.forIn_cons]
    refine wpAny_bind (wpAny_mono (Q := fun r s' => r = ForInStep.yield PUnit.unit ∧ s' = s) (E := fun _ _ => False) ?_ (fun r s' hr => ?_) fun _ _ x => x.elim)
    · by_cases hf : f i = true
      · rw [if_pos hf]; wp_walk; exact ⟨rfl, rfl⟩
      · rw [if_neg hf]; wp_walk; exact ⟨rfl, rfl⟩
    · obtain ⟨rfl, rfl⟩ := hr
      exact ih
theorem wp_reRun {b : Nat} {m : M} {P : M → Prop} (h : Ends b m P) (hb : b ≤ 4 * 2 ^ 64) {Q : Option M → Shared → Prop} (hP : ∀ m', P m' → (m'.outcome = some .matched ∧ Q (some m') s) ∨ (m'.outcome = some .failed ∧ Q none s)) : wpAny Md A (reRunToEnd m) Q E s := by
  unfold reRunToEnd
  refine wpAny_bind (wp_reDrive (P := P) (fun m' hm => ?_) (fun m' hm => ?_) (2 ^ 64) m (by decide) ?_)
  · rcases hP m' hm with h | h <;> rw [h.1] <;> rfl
  · refine wpAny_bind (wp_tell ?_ _)
    rcases hP m' hm with h | h
    · rw [h.1]; wp_walk; exact h.2
    · rw [h.1]; wp_walk; exact h.2
  · obtain ⟨n, m', h1, h2⟩ := h
    exact ⟨n, m', Nat.le_trans h1 hb, h2⟩
end
end Mine
end
section
theorem Mine.forget_MySb : True := by
  w_top off
  trivial
open PySem PySem.W PyProof.Rows PySem.Calls PySem.Spec PySem.Builtin PySem.Builtin.Re
open PySem.Sre (M)
set_option maxRecDepth 100000
namespace Mine
theorem entry_subloop : entryFor table "re.Pattern.sub.loop" = some Builtin.«re.Pattern.sub.loop» := entryFor_of_fast (by kernel_rfl)
theorem plain_subloop : plainId "re.Pattern.sub.loop" = true := by decide +kernel
abbrev patO (pv fl : Value) (T : Addr) : Obj := { cls := .type "re.Pattern", data := .fields #[pv, fl, .int 0 0, .none, .none, .ref T, .int 0 0] }
abbrev codO (its : Array Value) : Obj := { cls := .type "tuple", data := .seq its }
abbrev trg (P : Addr) (x : Str) (t : Tok) (c : Array Nat) : ReTarget := { pattern := .ref P, string := .str x t, code := c, text := x.cps, kind := 0, groups := 0, pos := 0, lim := x.cps.size }
section
variable {prog : Program} {w : World} {A : Around} {E : Value → Shared → Prop} {s : Shared}
theorem wp_whole {P T : Addr} {pv fl : Value} {its : Array Value} {c : Array Nat} {x : Str} {t : Tok} {Q : ReTarget → Shared → Prop} (hp : s.heap.get? P = some (patO pv fl T)) (hc : s.heap.get? T = some (codO its)) (he : (its.map reRawOf).map (·.toNat) = c) (h : Q (trg P x t c) s) :
    wpAny (model prog w) A (reWholeTarget (.ref P) (.str x t)) Q E s := by
  unfold reWholeTarget reTextOf reNoCollectionInside reRawItems
  wp_walk
  subst he; exact h
/-- what the loop finds from a place, and the text that it makes from there -/
def Finds (c : Array Nat) (text : Array Nat) (r : List Nat) (G : Nat → List Nat) (a : Nat) : Prop :=
  (∃ t hd, a ≤ t ∧ t < hd ∧ hd ≤ text.size ∧ G a = (text.extract a t).toList ++ r ++ G hd ∧ Ends (4 * 2 ^ 64) (Sre.forSearch c text 0 a text.size false) (fun m => m.outcome = some .matched ∧ m.start = t ∧ m.handed = hd)) ∨
  (G a = (text.extract a text.size).toList ∧ Ends (4 * 2 ^ 64) (Sre.forSearch c text 0 a text.size false) (fun m => m.outcome = some .failed))
def cat (l : List (Str × Tok)) : List Nat := (l.map fun p => lst p.1).flatten
theorem cat_cons (p : Str × Tok) (l : List (Str × Tok)) : cat (p :: l) = lst p.1 ++ cat l := by simp [cat]
theorem cat_snoc (p : Str × Tok) (l : List (Str × Tok)) : cat (l ++ [p]) = cat l ++ lst p.1 := by simp [cat]
theorem glue_fold (l : List (Str × Tok)) : ∀ acc : Array Nat, ((l.map (·.1)).foldl (fun acc p => acc ++ (⟨#[]⟩ : Str).cps ++ p.cps) acc).toList = acc.toList ++ cat l := by
  induction l with
  | nil => intro acc; simp [cat]
  | cons p l ih =>
    intro acc
    rw [List.map_cons, List.foldl_cons, ih, cat_cons]
    simp [lst]
theorem glue_cat (l : List (Str × Tok)) : Builtin.Str.glued ⟨#[]⟩ (l.map (·.1)) = ⟨(cat l).toArray⟩ := by
  cases l with
  | nil => rfl
  | cons p l =>
    apply str_ext
    rw [lst_mk, cat_cons]
    show (((p :: l).map (·.1)).drop 1 |>.foldl (fun acc p => acc ++ (⟨#[]⟩ : Str).cps ++ p.cps) p.1.cps).toList = _
    rw [List.map_cons, List.drop_one, List.tail_cons, glue_fold]
theorem fold_len (l : List (Str × Tok)) : ∀ n, ((l.map (·.1)).toArray.foldl (· + ·.length + (⟨#[]⟩ : Str).length) n) = n + (cat l).length := by
  intro n
  rw [List.foldl_toArray]
  induction l generalizing n with
  | nil => simp [cat]
  | cons p l ih =>
    rw [List.map_cons, List.foldl_cons, ih, cat_cons, List.length_append, ← len_lst]
    show n + p.1.length + 0 + _ = _
    (first | lia | omega)
theorem wp_join {D : Addr} {l : List (Str × Tok)} {t : Tok} {e : Nat} {Q : Value → Shared → Prop} (hD : s.heap.get? D = some { cls := .type "list", data := .seq (strValues l).toArray e }) (hl : (cat l).length ≤ sizeLine)
    (h : ∀ tv k', Q (.str ⟨(cat l).toArray⟩ tv) { s with toks := k' }) : wpAny (model prog w) A (call (.builtin "str.join") [.str ⟨#[]⟩ t, .ref D]) Q E s := by
  refine call_meets PySem.F.slot_str_join (T := "str") rfl PySem.F.entry_str_join (PySem.F.args_str_join_2 _ _) (meets_str_join_list ⟨#[]⟩ t D l ?_) ⟨⟨_, hD, rfl, e, rfl⟩, ?_⟩
  · rw [fold_len, Nat.zero_add]
    unfold Builtin.Str.tooLong
    simpa using hl
  · cases l with
    | nil => exact ⟨hl, h _ _⟩
    | cons p r => cases r with
      | nil =>
        have e : (⟨(cat [p]).toArray⟩ : Str) = p.1 := by apply str_ext; rw [lst_mk, cat_cons]; simp [cat]
        have := h p.2 s.toks
        rw [e] at this
        exact this
      | cons q r' =>
        refine ⟨?_, ?_⟩
        · rw [glue_cat, len_lst, lst_mk]; exact hl
        · rw [glue_cat]; exact h _ _
theorem wp_slice {x : Array Nat} {a b : Nat} {Q : Value → Shared → Prop} (hb : (x.extract a b).size ≤ sizeLine) (h : Q (.str ⟨x.extract a b⟩ s.toks) { s with toks := s.toks + 1 }) : wpAny (model prog w) A (reSlice x 0 a b) Q E s :=
  wpAny_mkStr (x := ⟨x.extract a b⟩) h hb
theorem wp_push {D : Addr} {l : List (Str × Tok)} {x : Str} {tx : Tok} {e : Nat} {Q : Unit → Shared → Prop} (hD : s.heap.get? D = some { cls := .type "list", data := .seq (strValues l).toArray e }) (hl : l.length ≤ sizeLine)
    (h : ∀ h', Heap.SameBut D s.heap h' → h'.get? D = some { cls := .type "list", data := .seq (strValues (l ++ [(x, tx)])).toArray (e + 1) } → Q () { s with heap := h' }) :
    wpAny (model prog w) A (updateSeq D fun v => v.push (.str x tx)) Q E s := by
  have hz : (strValues l).toArray.size ≤ sizeLine := by simpa [strValues] using hl
  refine wpAny_updateSeq hD rfl (h _ (Heap.SameBut.update ..) ?_) hz (by rw [Array.size_push]; (first | lia | omega))
  rw [Heap.get?_update_self _ hD (by rw [mapSeq_push]; rfl), mapSeq_push]
  simp [strValues]
theorem sub_loop {R : Result → Shared → Prop} {P T D : Addr} {pv fl : Value} {its : Array Value} {c : Array Nat} {x r : Str} {t tr : Tok} {G : Nat → List Nat} (he : (its.map reRawOf).map (·.toNat) = c) (hPD : P ≠ D) (hTD : T ≠ D)
    (hF : ∀ a, a ≤ x.cps.size → Finds c x.cps (lst r) G a) (hx : x.length ≤ 100000) (hr : r.length ≤ 100) :
    ∀ (k : Nat) (n : Int) (a : Nat) (l : List (Str × Tok)) (e : Nat) (s : Shared), x.cps.size - a = k → a ≤ x.cps.size → l.length ≤ 2 * a → (cat l).length ≤ 101 * a → s.heap.get? P = some (patO pv fl T) → s.heap.get? T = some (codO its) →
      s.heap.get? D = some { cls := .type "list", data := .seq (strValues l).toArray e } →
      (∀ h' tv k', (∀ b o, b ≠ D → s.heap.get? b = some o → h'.get? b = some o) → R (.ok (.ret (.str ⟨(cat l ++ G a).toArray⟩ tv))) { s with heap := h', toks := k' }) →
      codeAny (model prog w) A (.builtin "re.Pattern.sub.loop" ⟨[.ref P, .str x t, .str r tr, rawInt 0, rawInt 0, rawInt n, rawInt a, rawInt a, .bool false, .ref D, .bool false], []⟩) R s := by
  intro k
  induction k using Nat.strongRecOn with
  | ind k ih =>
    intro n a l e s hk ha hl2 hl3 hp hT hD hR
    refine codeAny_builtin entry_subloop ?_
    rw [Around.under_plainId plain_subloop _]
    unfold Builtin.«re.Pattern.sub.loop»
    dsimp only [rawInt]
    refine wpAny_bind (wp_whole hp hT he ?_)
    unfold reLiteralCannotBeTurned
    generalize hN : reNextFound = nf
    wp_walk
    subst hN
    unfold reNextFound
    rcases hF a ha with ⟨t', hd, h1, h2, h3, h4, h5⟩ | ⟨h4, h5⟩
    · refine wp_reRun h5 (Nat.le_refl _) fun m' hm => .inl ⟨hm.1, ?_⟩
      obtain ⟨-, hst, hha⟩ := hm
      have hxl : x.cps.size ≤ 100000 := hx
      have hzl : sizeLine = 16777216 := rfl
      have hne : (m'.handed == m'.start) = false := by rw [hst, hha]; simp; (first | lia | omega)
      have tail : ∀ (l' : List (Str × Tok)) (e' : Nat) (s' : Shared), cat l' = cat l ++ (x.cps.extract a t').toList → l'.length ≤ 2 * a + 1 → s'.gens = s.gens → s'.drawn = s.drawn → s'.os = s.os → (∀ b o, b ≠ D → s.heap.get? b = some o → s'.heap.get? b = some o) →
          s'.heap.get? D = some { cls := .type "list", data := .seq (strValues l').toArray e' } →
          wpAny (model prog w) A.in1 (updateSeq D fun v => v.push (.str r tr)) (fun _ s'' => codeAny (model prog w) A (.builtin "re.Pattern.sub.loop" ⟨[.ref P, .str x t, .str r tr, rawInt 0, rawInt 0, rawInt (n + 1), rawInt hd, rawInt hd, .bool false, .ref D, .bool false], []⟩) R s'') (fun e s' => R (.error e) s') s' := by
        intro l' e' s' hc' hl' hg hdr hos hkeep hD'
        refine wp_push hD' (by (first | lia | omega)) fun h' hs hD2 => ?_
        have hex : (x.cps.extract a t').size = t' - a := by rw [Array.size_extract]; (first | lia | omega)
        refine ih (x.cps.size - hd) (by (first | lia | omega)) (n + 1) hd (l' ++ [(r, tr)]) (e' + 1) { s' with heap := h' } rfl h3 (by rw [List.length_append, List.length_singleton]; (first | lia | omega)) ?_ ((hs.2 P hPD).trans (hkeep _ _ hPD hp)) ((hs.2 T hTD).trans (hkeep _ _ hTD hT)) hD2 ?_
        · rw [cat_snoc, hc', List.length_append, List.length_append, show (x.cps.extract a t').toList.length = t' - a from hex]
          have : (lst r).length = r.length := (len_lst r).symm
          dsimp only
          (first | lia | omega)
        · intro h2 tv k' hk2
          have := hR h2 tv k' fun b o hb ho => hk2 b o hb ((hs.2 b hb).trans (hkeep b o hb ho))
          rw [h4] at this
          rw [cat_snoc, hc', show ({ s' with heap := h2, toks := k' } : Shared) = { s with heap := h2, toks := k' } from by rw [hg, hdr, hos]]
          simpa only [List.append_assoc] using this
      dsimp only [rawInt] at tail
      have hcast : ((a : Int)).toNat = a := Int.toNat_natCast a
      dsimp only
      rw [hcast, hst, hha]
      rw [hst, hha] at hne
      have eq0 : ((0 : Int) == 0) = true := rfl
      by_cases hlt : a < t'
      · rw [if_pos hlt]
        refine wpAny_bind (wp_slice (by rw [Array.size_extract]; (first | lia | omega)) ?_)
        refine wpAny_bind (wp_push hD (by (first | lia | omega)) fun h' hs hD2 => ?_)
        rw [if_pos eq0]
        refine wpAny_bind (wpAny_pure ?_)
        rw [if_pos (show (Value.str r tr != Value.none) = true from rfl)]
        refine wpAny_bind (wpAny_mono (tail (l ++ [(⟨x.cps.extract a t'⟩, s.toks)]) (e + 1) { s with heap := h', toks := s.toks + 1 } (by rw [cat_snoc]) (by rw [List.length_append, List.length_singleton]; (first | lia | omega)) rfl rfl rfl (fun b o hb ho => (hs.2 b hb).trans ho) hD2) (fun _ s2 hq => ?_) fun _ _ x => x)
        rw [hne]
        exact wpAny_pure ⟨plainId_quiet plain_subloop _, hq⟩
      · rw [if_neg hlt]
        rw [if_pos eq0]
        refine wpAny_bind (wpAny_pure ?_)
        rw [if_pos (show (Value.str r tr != Value.none) = true from rfl)]
        have hz : (x.cps.extract a t').toList = [] := by
          rw [← List.length_eq_zero_iff, Array.length_toList, Array.size_extract]; (first | lia | omega)
        refine wpAny_bind (wpAny_mono (tail l e s (by rw [hz, List.append_nil]) (by (first | lia | omega)) rfl rfl rfl (fun b o hb ho => ho) hD) (fun _ s2 hq => ?_) fun _ _ x => x)
        rw [hne]
        exact wpAny_pure ⟨plainId_quiet plain_subloop _, hq⟩
    · refine wp_reRun h5 (Nat.le_refl _) fun m' hm => .inr ⟨hm, ?_⟩
      have hxl : x.cps.size ≤ 100000 := hx
      have hzl : sizeLine = 16777216 := rfl
      have hcast : ((a : Int)).toNat = a := Int.toNat_natCast a
      have e0 : x.cps.extract 0 0 = #[] := by simp
      dsimp only
      rw [hcast]
      by_cases hlt : a < x.cps.size
      · rw [if_pos hlt]
        refine wpAny_bind (wp_slice (by rw [Array.size_extract]; (first | lia | omega)) ?_)
        refine wpAny_bind (wp_push hD (by (first | lia | omega)) fun h' hs hD2 => ?_)
        refine wpAny_bind (wp_slice (by rw [e0]; exact Nat.zero_le _) ?_)
        unfold seqItems?
        refine wpAny_bind (wpAny_bind (wpAny_load hD2 (wpAny_pure ?_)))
        rw [if_neg (by simp [strValues]), e0]
        refine wpAny_bind (wp_join hD2 ?_ fun tv k' => ?_)
        · rw [cat_snoc, List.length_append]
          have hex : (x.cps.extract a x.cps.size).toList.length = x.cps.size - a := by
            show (x.cps.extract a x.cps.size).size = _
            rw [Array.size_extract]; (first | lia | omega)
          dsimp only
          rw [show lst ⟨x.cps.extract a x.cps.size⟩ = (x.cps.extract a x.cps.size).toList from rfl, hex]; (first | lia | omega)
        · rw [if_neg (by decide)]
          have := hR h' tv k' fun b o hb ho => (hs.2 b hb).trans ho
          rw [h4] at this
          rw [cat_snoc]
          exact wpAny_pure this
      · rw [if_neg hlt]
        have hz : (x.cps.extract a x.cps.size).toList = [] := by
          rw [← List.length_eq_zero_iff, Array.length_toList, Array.size_extract]; (first | lia | omega)
        rw [h4, hz, List.append_nil] at hR
        refine wpAny_bind (wp_slice (by rw [e0]; exact Nat.zero_le _) ?_)
        unfold seqItems?
        refine wpAny_bind (wpAny_bind (wpAny_load hD (wpAny_pure ?_)))
        rw [e0]
        by_cases hlz : l = []
        · subst hlz
          rw [if_pos (by simp [strValues])]
          refine wpAny_bind (wpAny_pure ?_)
          rw [if_neg (by decide)]
          exact wpAny_pure (hR _ _ _ fun b o hb ho => ho)
        · rw [if_neg (by simpa [strValues] using hlz)]
          refine wpAny_bind (wp_join hD (by (first | lia | omega)) fun tv k' => ?_)
          rw [if_neg (by decide)]
          exact wpAny_pure (hR _ _ _ fun b o hb ho => ho)
end
end Mine
end
section
theorem Mine.forget_MyQ : True := by
  w_top off
  trivial
open PySem PySem.W PyProof.Rows PySem.Calls PySem.Spec PySem.Builtin PySem.Builtin.Re
open PySem.Sre (M)
set_option maxRecDepth 100000
namespace Mine
theorem plain_re : PlainAttrs "re.Pattern" :=
  ⟨⟨"object.__getattribute__", by rw [typeLookup_type, builtinLookup_eq_fast]; kernel_rfl, by decide +kernel⟩, by rw [typeLookup_type, builtinLookup_eq_fast]; kernel_rfl⟩
theorem slot_re_sub : Slot "re.Pattern" (Str.ofString "sub") "re.Pattern.sub" :=
  .of (owner := "re.Pattern") (n := "sub") (by rw [typeLookup_type, builtinLookup_eq_fast]; kernel_rfl) (by decide +kernel) (by decide +kernel) (by decide +kernel)
    (by first | exact .inl (by decide +kernel) | exact .inr (by decide +kernel)) (by rw [isSubtype_type]; kernel_rfl)
theorem type_re_sub : typeOf (.builtin "re.Pattern.sub") = pure (.type "method_descriptor") := by show builtinType _ = _; rw [builtinType_eq_fast]; kernel_rfl
theorem entry_re_sub : entryFor table "re.Pattern.sub" = some Builtin.«re.Pattern.sub» := entryFor_of_fast (by kernel_rfl)
theorem args_re_sub (a b c : Value) : argsOk "re.Pattern.sub" ⟨[a, b, c], []⟩ := by kernel_rfl
theorem str_call : typeLookup (.type "str") (Str.ofString "__call__") = pure none := by rw [typeLookup_type, builtinLookup_eq_fast]; kernel_rfl
theorem named_re (a b : Value) : reNamed "re.Pattern.sub" "sub" ["repl", "string", "count"] 2 [a, b] [] = pure [some a, some b, none] := by kernel_rfl
section
variable {prog : Program} {w : World} {A : Around} {E : Value → Shared → Prop} {s : Shared}
theorem getMethod_re {P T : Addr} {pv fl : Value} {pl : Sem Bool} {Q : Value × List Value → Shared → Prop} (hp : s.heap.get? P = some (patO pv fl T)) (h : Q (.builtin "re.Pattern.sub", [.ref P]) s) :
    wpAny (model prog w) A (getMethod (.ref P) (Str.ofString "sub") pl) Q E s :=
  getMethod_builtin ⟨_, hp, rfl⟩ plain_re slot_re_sub type_re_sub (fun a e => by cases e; exact ⟨_, hp, rfl⟩) h
theorem call_sub {P T : Addr} {pv fl : Value} {its : Array Value} {c : Array Nat} {x r : Str} {t tr : Tok} {G : Nat → List Nat} {Q : Value → Shared → Prop} (hp : s.heap.get? P = some (patO pv fl T)) (hT : s.heap.get? T = some (codO its))
    (he : (its.map reRawOf).map (·.toNat) = c) (hF : ∀ a, a ≤ x.cps.size → Finds c x.cps (lst r) G a) (hx : x.length ≤ 100000) (hr : r.length ≤ 100) (hb : r.cps.contains 92 = false)
    (h : ∀ h' tv k', (∀ b o, s.heap.get? b = some o → h'.get? b = some o) → Q (.str ⟨(G 0).toArray⟩ tv) { s with heap := h', toks := k' }) :
    wpAny (model prog w) A (call (.builtin "re.Pattern.sub") [.ref P, .str r tr, .str x t]) Q E s := by
  have hTy : s.TypeIs (.ref P) "re.Pattern" := ⟨_, hp, rfl⟩
  refine wpAny_call (codeAny_call_builtin slot_re_sub.plain entry_re_sub (slot_re_sub.check _ _ _ _ _ _ _ _ hTy (args_re_sub _ _ _) ?_))
  unfold Builtin.«re.Pattern.sub» reSubstitute
  dsimp only
  refine wpAny_bind (wpAny_of_eq (named_re _ _) ?_)
  dsimp only
  refine wpAny_bind (wpAny_pure ?_)
  refine wpAny_bind (wpAny_specialOf (T := "str") (show s.TypeIs (.str r tr) "str" from rfl) str_call ?_)
  rw [if_neg (by decide)]
  refine wpAny_bind (wpAny_of_eq (show asStr? (.str r tr) = pure (some r) from rfl) ?_)
  dsimp only
  refine wpAny_bind (wpAny_pure ?_)
  rw [if_neg (by decide), hb, if_pos (by decide)]
  refine wpAny_bind (wpAny_pure ?_)
  refine wpAny_bind (wpAny_holding (wp_whole hp hT he ?_))
  dsimp only
  rw [if_neg (by decide)]
  refine wpAny_bind (wpAny_newList ?_ (Nat.zero_le _))
  refine wpAny_pure ⟨plainId_quiet plain_subloop _, ?_⟩
  have hPs := Heap.lt_size hp
  have hTs := Heap.lt_size hT
  refine sub_loop (c := c) (G := G) he (Nat.ne_of_lt hPs) (Nat.ne_of_lt hTs) hF hx hr (x.cps.size - 0) 0 0 [] 0 _ rfl (Nat.zero_le _) (Nat.le_refl _) (Nat.le_refl _) (Heap.get?_push_of_some _ hp) (Heap.get?_push_of_some _ hT) (Heap.get?_push_size _ rfl) fun h' tv k' hk => ?_
  exact h h' tv k' fun b o ho => hk b o (Nat.ne_of_lt (Heap.lt_size ho)) (Heap.get?_push_of_some _ ho)
end
/-- line ends -/
def crlf : List Nat → List Nat
  | [] => []
  | [c] => if c = 13 ∨ c = 10 then [13, 10] else [c]
  | c :: d :: r => if c = 13 ∧ d = 10 then 13 :: 10 :: crlf r else if c = 13 ∨ c = 10 then 13 :: 10 :: crlf (d :: r) else c :: crlf (d :: r)
/-- dots at the lines' starts -/
def dots : Bool → List Nat → List Nat
  | _, [] => []
  | b, c :: r => (if b = true ∧ c = 46 then [46, 46] else [c]) ++ dots (c == 10) r
end Mine
end
section
theorem Mine.forget_MyQ2 : True := by
  w_top off
  trivial
open PySem PySem.Sre
set_option maxRecDepth 100000
namespace Mine
theorem first_or (p : Nat → Bool) (n : Nat) : ∀ d a, a + d = n → (∃ t, a ≤ t ∧ t < n ∧ p t = true ∧ ∀ i, a ≤ i → i < t → p i = false) ∨ (∀ i, a ≤ i → i < n → p i = false) := by
  intro d
  induction d with
  | zero => intro a h; exact .inr fun i h1 h2 => by (first | lia | omega)
  | succ d ih =>
    intro a h
    cases hp : p a with
    | true => exact .inl ⟨a, Nat.le_refl _, by (first | lia | omega), hp, fun i h1 h2 => by (first | lia | omega)⟩
    | false =>
      rcases ih (a + 1) (by (first | lia | omega)) with ⟨t, h1, h2, h3, h4⟩ | h4
      · refine .inl ⟨t, by (first | lia | omega), h2, h3, fun i h5 h6 => ?_⟩
        rcases Nat.eq_or_lt_of_le h5 with e | e
        · rw [← e]; exact hp
        · exact h4 i e h6
      · refine .inr fun i h5 h6 => ?_
        rcases Nat.eq_or_lt_of_le h5 with e | e
        · rw [← e]; exact hp
        · exact h4 i e h6
theorem drop_cons {x : Array Nat} {t : Nat} (h : t < x.size) : x.toList.drop t = x.getD t 0 :: x.toList.drop (t + 1) := by
  have hl : t < x.toList.length := h
  rw [List.drop_eq_getElem_cons hl]
  congr 1
  simp [Array.getD, h]
theorem ext_list (x : Array Nat) (a b : Nat) : (x.extract a b).toList = (x.toList.drop a).take (b - a) := by simp [List.extract]
theorem crlf_plain {c : Nat} (h : eol c = false) (r : List Nat) : crlf (c :: r) = c :: crlf r := by
  simp only [eol, Bool.or_eq_false_iff, beq_eq_false_iff_ne] at h
  cases r with
  | nil => simp [crlf, h.1, h.2]
  | cons d r => simp [crlf, h.1, h.2]
theorem crlf_nl (r : List Nat) : crlf (10 :: r) = 13 :: 10 :: crlf r := by cases r <;> simp [crlf]
theorem crlf_crlf (r : List Nat) : crlf (13 :: 10 :: r) = 13 :: 10 :: crlf r := by simp [crlf]
theorem crlf_cr {r : List Nat} (h : ∀ r', r ≠ 10 :: r') : crlf (13 :: r) = 13 :: 10 :: crlf r := by
  cases r with
  | nil => simp [crlf]
  | cons d r =>
    have : d ≠ 10 := fun e => h r (by rw [e])
    simp [crlf, this]
section
variable {x : Array Nat}
theorem crlf_pre : ∀ (d a : Nat), a + d ≤ x.size → (∀ i, a ≤ i → i < a + d → eol (x.getD i 0) = false) → crlf (x.toList.drop a) = (x.toList.drop a).take d ++ crlf (x.toList.drop (a + d)) := by
  intro d
  induction d with
  | zero => intro a _ _; simp
  | succ d ih =>
    intro a h hn
    rw [drop_cons (by (first | lia | omega)), crlf_plain (hn a (Nat.le_refl _) (by (first | lia | omega))), ih (a + 1) (by (first | lia | omega)) (fun i h1 h2 => hn i (by (first | lia | omega)) (by (first | lia | omega)))]
    rw [show a + 1 + d = a + (d + 1) by (first | lia | omega)]
    simp
theorem crlf_at {t : Nat} (h : t < x.size) (he : eol (x.getD t 0) = true) : crlf (x.toList.drop t) = [13, 10] ++ crlf (x.toList.drop (t + eolW x t)) := by
  simp only [eol, Bool.or_eq_true, beq_iff_eq] at he
  unfold eolW
  rw [drop_cons h]
  rcases he with he | he
  · rw [if_neg (by (first | lia | omega)), he, crlf_nl]; rfl
  · by_cases h2 : t + 1 < x.size ∧ x.getD (t + 1) 0 = 10
    · rw [if_pos ⟨he, h2⟩, he, drop_cons h2.1, h2.2, crlf_crlf]; rfl
    · rw [if_neg (fun z => h2 z.2), he, crlf_cr]; rfl
      intro r' e
      by_cases h3 : t + 1 < x.size
      · rw [drop_cons h3] at e
        injection e with e1 e2
        exact h2 ⟨h3, e1⟩
      · rw [List.drop_eq_nil_of_le (by simpa using h3)] at e; cases e
theorem eolW_le {t : Nat} (h : t < x.size) : t < t + eolW x t ∧ t + eolW x t ≤ x.size := by
  unfold eolW
  by_cases h' : x.getD t 0 = 13 ∧ t + 1 < x.size ∧ x.getD (t + 1) 0 = 10
  · rw [if_pos h']; (first | lia | omega)
  · rw [if_neg h']; (first | lia | omega)
theorem finds2 {a : Nat} (ha : a ≤ x.size) : Finds c2 x [13, 10] (fun a => crlf (x.toList.drop a)) a := by
  rcases first_or (fun i => eol (x.getD i 0)) x.size (x.size - a) a (by (first | lia | omega)) with ⟨t, h1, h2, h3, h4⟩ | h4
  · refine .inl ⟨t, t + eolW x t, h1, (eolW_le h2).1, (eolW_le h2).2, ?_, ?_⟩
    · have := crlf_pre (x := x) (t - a) a (by (first | lia | omega)) (fun i h5 h6 => h4 i h5 (by (first | lia | omega)))
      dsimp only
      rw [this, ext_list, show a + (t - a) = t by (first | lia | omega), crlf_at h2 h3, List.append_assoc]
    · obtain ⟨n, m', h5, h6⟩ := found2 (mu := false) h1 h2 h3 h4
      exact ⟨n, m', by (first | lia | omega), h6⟩
  · refine .inr ⟨?_, ?_⟩
    · have := crlf_pre (x := x) (x.size - a) a (by (first | lia | omega)) (fun i h5 h6 => h4 i h5 (by (first | lia | omega)))
      dsimp only
      rw [this, ext_list, show a + (x.size - a) = x.size by (first | lia | omega)]
      rw [List.drop_eq_nil_of_le (i := x.size) (by simp)]
      simp [crlf]
    · obtain ⟨n, m', h5, h6⟩ := lost2 (mu := false) ha h4
      exact ⟨n, m', by (first | lia | omega), h6⟩
abbrev bol (x : Array Nat) (a : Nat) : Bool := a == 0 || x.getD (a - 1) 0 == 10
theorem dots_pre : ∀ (d a : Nat), a + d ≤ x.size → (∀ i, a ≤ i → i < a + d → dot1 x i = false) → dots (bol x a) (x.toList.drop a) = (x.toList.drop a).take d ++ dots (bol x (a + d)) (x.toList.drop (a + d)) := by
  intro d
  induction d with
  | zero => intro a _ _; simp
  | succ d ih =>
    intro a h hn
    have h0 := hn a (Nat.le_refl _) (by (first | lia | omega))
    unfold dot1 at h0
    have hb : (bol x (a + 1)) = (x.getD a 0 == 10) := by simp [bol]
    rw [drop_cons (by (first | lia | omega)), dots, ← hb, ih (a + 1) (by (first | lia | omega)) (fun i h1 h2 => hn i (by (first | lia | omega)) (by (first | lia | omega)))]
    rw [show a + 1 + d = a + (d + 1) by (first | lia | omega)]
    rw [if_neg]
    · simp
    · rintro ⟨h1, h2⟩
      have h1' : (a == 0 || x.getD (a - 1) 0 == 10) = true := h1
      rw [h1', h2] at h0
      simp at h0; (first | lia | omega)
theorem finds1 {a : Nat} (ha : a ≤ x.size) (hz : x.size ≤ 100000) : Finds c1 x [46, 46] (fun a => dots (bol x a) (x.toList.drop a)) a := by
  rcases first_or (fun i => dot1 x i) x.size (x.size - a) a (by (first | lia | omega)) with ⟨t, h1, h2, h3, h4⟩ | h4
  · refine .inl ⟨t, t + 1, h1, by (first | lia | omega), by (first | lia | omega), ?_, ?_⟩
    · have := dots_pre (x := x) (t - a) a (by (first | lia | omega)) (fun i h5 h6 => h4 i h5 (by (first | lia | omega)))
      dsimp only
      rw [this, ext_list, show a + (t - a) = t by (first | lia | omega), List.append_assoc]
      congr 1
      have h3' := h3
      unfold dot1 at h3'
      simp only [Bool.and_eq_true, decide_eq_true_eq, beq_iff_eq] at h3'
      have hb : (bol x (t + 1)) = (x.getD t 0 == 10) := by simp [bol]
      rw [drop_cons h2, dots, if_pos ⟨h3'.1, h3'.2.2⟩, hb]
    · obtain ⟨n, m', h5, h6⟩ := found1 (mu := false) h1 h3 h4
      exact ⟨n, m', by (first | lia | omega), h6⟩
  · have h4' : ∀ i, a ≤ i → dot1 x i = false := by
      intro i hi
      by_cases h : i < x.size
      · exact h4 i hi h
      · unfold dot1; simp [h]
    refine .inr ⟨?_, ?_⟩
    · have := dots_pre (x := x) (x.size - a) a (by (first | lia | omega)) (fun i h5 h6 => h4 i h5 (by (first | lia | omega)))
      dsimp only
      rw [this, ext_list, show a + (x.size - a) = x.size by (first | lia | omega)]
      rw [List.drop_eq_nil_of_le (i := x.size) (by simp)]
      simp [dots]
    · obtain ⟨n, m', h5, h6⟩ := lost1 (mu := false) ha h4'
      exact ⟨n, m', by (first | lia | omega), h6⟩
end
end Mine
end
section
theorem Mine.forget_MyC : True := by
  w_top off
  trivial
open PySem PySem.W PyProof.Rows PySem.Calls PySem.Spec
set_option maxRecDepth 100000
namespace Mine
theorem allLt_ne {d D : Nat} : ∀ {l : List (Addr × Obj)}, AllLt d l → d ≤ D → ∀ p ∈ l, p.1 ≠ D
  | [], _, _ => fun _ h => nomatch h
  | q :: r, h, hd => fun p hp => by
    rcases List.mem_cons.mp hp with rfl | hp
    · have := h.1; exact Nat.ne_of_lt (Nat.lt_of_lt_of_le this hd)
    · exact allLt_ne h.2 hd p hp
theorem allLt_mem {d : Nat} : ∀ {l : List (Addr × Obj)}, AllLt d l → ∀ {p : Addr × Obj}, p ∈ l → p.1 < d
  | [], _, _, h => nomatch h
  | q :: r, h, p, hp => by
    rcases List.mem_cons.mp hp with rfl | hp
    · exact h.1
    · exact allLt_mem h.2 hp
/-- a turn's end, the ledger free -/
def EndG {σ : Type} (h₀ : Heap) (L : Addr) (s : Shared) (I : Addr) (it : Obj) (Led : σ → List (Addr × Obj)) (ps : σ → List (Str × Value)) (P : σ → Prop) (Q : Flow → Shared → Prop) (f : Flow) (s₂ : Shared) : Prop :=
  match f with
  | .ret v => Q (.ret v) s₂
  | .brk => Q .next s₂
  | _ => JoinA h₀ L s (fun c => (I, it) :: Led c) ps (fun c => (∀ p ∈ Led c, p.1 ≠ I) ∧ P c) s₂
section
variable {prog : Program} {w : World} {A : Around} {E : Value → Shared → Prop} {Q : Flow → Shared → Prop} {s : Shared} {env : Env} {h₀ : Heap} {x : Str} {body : List Stmt}
theorem endG_up {σ : Type} {L I : Addr} {it : Obj} {Led : σ → List (Addr × Obj)} {ps : σ → List (Str × Value)} {P : σ → Prop} {f : Flow} {s₂ : Shared} {rest : (Str → Option Value) → List (Addr × Obj) → Prop}
    (hJ : ∀ c m, (∀ p ∈ ps c, m p.1 = some p.2) → (∀ p ∈ Led c, p.1 ≠ I) → P c → rest m (Led c)) (p : EndG h₀ L s I it Led ps P Q f s₂) : UnrPost h₀ L s I it rest Q f s₂ := by
  cases f with
  | ret v => exact p
  | brk => exact p
  | next =>
    obtain ⟨c', h', tk, m', news', rfl, F', N', hn, hk, ho, hp⟩ := p
    exact ⟨h', tk, m', Led c', rfl, F', fun q hq => N' q (hn q hq), ho, hJ c' m' hk ho hp⟩
  | cont =>
    obtain ⟨c', h', tk, m', news', rfl, F', N', hn, hk, ho, hp⟩ := p
    exact ⟨h', tk, m', Led c', rfl, F', fun q hq => N' q (hn q hq), ho, hJ c' m' hk ho hp⟩
theorem range_grow {σ : Type} {r : Addr} {a₀ b₀ : Int} {t₀ u₀ v₀ : Tok} {n : Nat} {m₀ : Str → Option Value} (Led : σ → List (Addr × Obj)) (ps : σ → List (Str × Value)) (P : Nat → σ → Prop) (c₀ : σ)
    (hh : A.handled = none) (hr : IsRange s.heap r a₀ b₀ 1 t₀ u₀ v₀) (hsmall : Builtin.Range.small a₀ b₀ 1 = true) (hn : Builtin.Range.rangeSize a₀ b₀ 1 = (n : Int)) (F : Fr h₀ env.locals s.heap m₀) (N : News h₀ env.locals s.heap (Led c₀)) (hk : ∀ p ∈ ps c₀, m₀ p.1 = some p.2) (hp : P 0 c₀)
    (turn : ∀ (c : σ) (i : Nat) t (u : Str → Option Value) h tk I it, i < n → (∀ p ∈ Led c, p.1 ≠ I) → P i c →
      Fr h₀ env.locals h (kstB (kstB u (ps c)) [(x, .int (a₀ + i) t)]) → News h₀ env.locals h ((I, it) :: Led c) →
      wpAny (model prog w) A (execs body env) (EndG h₀ env.locals { s with heap := h, toks := tk } I it Led ps (P (i + 1)) Q) E { s with heap := h, toks := tk })
    (done : ∀ (c : σ) (u : Str → Option Value) h tk, P n c → Fr h₀ env.locals h (kstB u (ps c)) → News h₀ env.locals h (Led c) → Q .next { s with heap := h, toks := tk }) :
    wpAny (model prog w) A (pyIter (.ref r)) (fun it s₂ => LoopAtV prog w A h₀ env x body Q E it s₂) E s := by
  refine iter_rangeUnr hh hr hsmall hn F N fun I hI => ?_
  have key : ∀ (k i : Nat) (c : σ) (m : Str → Option Value), i + k = n → P i c → (∀ p ∈ ps c, m p.1 = some p.2) → (∀ p ∈ Led c, p.1 ≠ I) → RangeRest prog w A E h₀ env x body Q s I a₀ n k i m (Led c) := by
    intro k
    induction k with
    | zero =>
      intro i c m hi hp hk _
      have : i = n := by omega
      subst this
      exact RangeRest.zero fun h tk F' N' => done c m h tk hp (fr_kst F' hk) N'
    | succ k ih =>
      intro i c m hi hp hk ho
      refine RangeRest.succ fun t h tk F' N' => ?_
      have em : kstB m (ps c) = m := funext fun y => kstB_eq hk fun _ => rfl
      refine wpAny_mono (turn c i t m h tk I _ (by omega) ho hp (by rw [em]; exact F') N') (fun f s₂ p => endG_up (fun c' m' h1 h2 h3 => ih (i + 1) c' m' (by omega) h3 h1 h2) p) fun _ _ e => e
  exact key n 0 c₀ m₀ (by omega) hp hk fun p hp => Nat.ne_of_lt (hI p hp)
theorem list_grow {σ : Type} {ax : Addr} {vs : List Value} {ep : Nat} {m₀ : Str → Option Value} (Led : σ → List (Addr × Obj)) (ps : σ → List (Str × Value)) (P : Nat → σ → Prop) (c₀ : σ)
    (hh : A.handled = none) (F : Fr h₀ env.locals s.heap m₀) (N : News h₀ env.locals s.heap (Led c₀)) (hk : ∀ p ∈ ps c₀, m₀ p.1 = some p.2) (hp : P 0 c₀) (hax : ∀ i c, P i c → (ax, listOf vs.toArray ep) ∈ Led c)
    (turn : ∀ (c : σ) (i : Nat) v (u : Str → Option Value) h tk I it, vs[i]? = some v → (∀ p ∈ Led c, p.1 ≠ I) → P i c →
      Fr h₀ env.locals h (kstB (kstB u (ps c)) [(x, v)]) → News h₀ env.locals h ((I, it) :: Led c) →
      wpAny (model prog w) A (execs body env) (EndG h₀ env.locals { s with heap := h, toks := tk } I it Led ps (P (i + 1)) Q) E { s with heap := h, toks := tk })
    (done : ∀ (c : σ) (u : Str → Option Value) h tk, P vs.length c → Fr h₀ env.locals h (kstB u (ps c)) → News h₀ env.locals h (Led c) → Q .next { s with heap := h, toks := tk }) :
    wpAny (model prog w) A (pyIter (.ref ax)) (fun it s₂ => LoopAtV prog w A h₀ env x body Q E it s₂) E s := by
  refine iter_listUnr (lo := listOf vs.toArray ep) hh F N (hax 0 c₀ hp) rfl rfl fun I hI => ?_
  have key : ∀ (r : List Value) (i : Nat) (c : σ) (m : Str → Option Value), vs.drop i = r → i ≤ vs.length → P i c → (∀ p ∈ ps c, m p.1 = some p.2) → (∀ p ∈ Led c, p.1 ≠ I) → ListRest prog w A E h₀ env x body Q s I (ax, listOf vs.toArray ep) r m (Led c) := by
    intro r
    induction r with
    | nil =>
      intro i c m hi hle hp hk _
      have : i = vs.length := by have := congrArg List.length hi; simp at this; omega
      subst this
      exact ListRest.zero fun h tk F' N' => done c m h tk hp (fr_kst F' hk) N'
    | cons v r ih =>
      intro i c m hi hle hp hk ho
      have hlt : i < vs.length := by
        rcases Nat.lt_or_ge i vs.length with h | h
        · exact h
        · rw [List.drop_eq_nil_of_le h] at hi; cases hi
      have hv : vs[i]? = some v := by
        rw [List.drop_eq_getElem_cons hlt] at hi
        injection hi with h1 h2
        rw [List.getElem?_eq_getElem hlt, h1]
      have hr : vs.drop (i + 1) = r := by
        rw [List.drop_eq_getElem_cons hlt] at hi
        injection hi
      refine ListRest.succ fun it h tk _ F' N' => ?_
      have em : kstB m (ps c) = m := funext fun y => kstB_eq hk fun _ => rfl
      refine wpAny_mono (turn c i v m h tk I it hv ho hp (by rw [em]; exact F') N') (fun f s₂ p => endG_up (fun c' m' h1 h2 h3 => ⟨hax _ _ h3, ih (i + 1) c' m' hr hlt h3 h1 h2⟩) p) fun _ _ e => e
  exact key vs 0 c₀ m₀ rfl (Nat.zero_le _) hp hk fun p hp => Nat.ne_of_lt (hI p hp)
end
section
variable {prog : Program} {w : World} {A : Around} {h₀ : Heap} {L : Addr} {m : Str → Option Value} {env : Env} {elt : Expr} {x : Str} {scope : Scope} {cl : List (Str × Addr)} {s : Shared} {S : List (Addr × Obj) → Prop} {Pv : Nat → Value → Prop} {Fin : List Value → List (Addr × Obj) → Prop}
theorem comp_all {σ : Type} (Led : σ → List (Addr × Obj)) (P : Nat → σ → List Value → Prop) {n : Nat} (c₀ : σ) (hp : P 0 c₀ [])
    (turn : ∀ i c ys v I oI C oC D m₂ h tk (E' : Value → Shared → Prop), i < n → P i c ys → Pv i v → LCg.NsObj oC m₂ → m₂ x = some v → Fr h₀ L h m → News h₀ L h ((I, oI) :: (C, oC) :: (D, LCg.lst ys) :: Led c) → LCg.Off3 I C D (Led c) → ((@Ne Nat I C) ∧ (@Ne Nat I D) ∧ (@Ne Nat C D)) →
      wpAny (model prog w) A (eval elt (compEnvC scope cl C env)) (LCg.CompEnd h₀ L m { s with heap := h, toks := tk } I oI C oC D (LCg.lst ys) S (fun y news' => ∃ c', news' = Led c' ∧ P (i + 1) c' (ys ++ [y]))) E' { s with heap := h, toks := tk })
    (fin : ∀ c ys, P n c ys → Fin ys (Led c)) : LCg.CompRest prog w A h₀ L m env elt x scope cl s S Pv Fin n 0 [] (Led c₀) := by
  have key : ∀ (k i : Nat) (c : σ) (ys : List Value), i + k = n → P i c ys → LCg.CompRest prog w A h₀ L m env elt x scope cl s S Pv Fin k i ys (Led c) := by
    intro k
    induction k with
    | zero =>
      intro i c ys hi hp
      have : i = n := by omega
      subst this
      exact LCg.CompRest.zero (fin c ys hp)
    | succ k ih =>
      intro i c ys hi hp
      refine LCg.CompRest.succ ?_
      intro v I oI C oC D m₂ h tk E' hv hC hx F N off ne
      refine wpAny_mono (turn i c ys v I oI C oC D m₂ h tk E' (by omega) hp hv hC hx F N off ne) (fun y s₂ hq => ?_) fun _ _ e => e
      obtain ⟨h', tk', nw, e, F', N', off', hS, c', rfl, hp'⟩ := hq
      exact ⟨h', tk', _, e, F', N', off', hS, ih (i + 1) c' _ (by omega) hp'⟩
  exact key n 0 c₀ [] (by omega) hp
end
end Mine
end
section
theorem Mine.forget_Sub3 : True := by
  w_top off
  trivial
open PySem PySem.W PyProof.Rows PySem.Calls PySem.Spec
set_option maxRecDepth 100000
set_option maxHeartbeats 8000000
namespace Mine
theorem sub_ctr (w : World) (p : Program) (loose : List Str) (mean : ExcName → Option Value) (mg mb : Str → Option Value) (Xt : Heap → Prop) (news : List (Addr × Obj)) (a b : Str) (t1 t2 : Tok) :
   Ctr (PySem.Challenge.rw_pe0114_03).row.prog w (hd.heap_39 w.params) p loose mean mg mb Xt 104 1 news (a.length ≤ 1000 ∧ b.length ≤ 1000) [.str a t1, .str b t2] (fun v nw => (∃ t, v = .int (substF a b) t) ∧ nw = news) := by
  k_fill
  dsimp only [Ctr]
  intros; rename_i hpre _ _ hret
  obtain ⟨hla, hlb⟩ := hpre
  k_dflt cell_enter
  k_steps
  all_goals (refine hret _ _ _ _ ⟨ret_int ?_, rfl⟩ (by k_asm) (by k_asm); simp_all [substF])
end Mine
end
section
theorem Mine.forget_Lev3 : True := by
  w_top off
  trivial
open PySem PySem.W PyProof.Rows PySem.Calls PySem.Spec
set_option maxRecDepth 100000
set_option maxHeartbeats 8000000
namespace Mine
theorem slice_len (x : Str) (l u : Option Int) : (Txt.slice x l u).length ≤ x.length := PySem.Txt.slice_le x l u
theorem P1_start (a b : Str) : P1 a b 0 := ⟨Int.le_refl _, by (first | lia | omega), by (first | lia | omega), by simp⟩
theorem P1_next {a b : Str} {pre : Int} (h : P1 a b pre) (ha : pre < a.length) (hb : pre < b.length) (e : (Txt.item a pre == Txt.item b pre) = true) : P1 a b (pre + 1) := by
  obtain ⟨h0, h1, h2, h3⟩ := h
  rw [item_at h0 ha, item_at h0 hb, one_beq] at e
  have e := eq_of_beq e
  refine ⟨by (first | lia | omega), by (first | lia | omega), by (first | lia | omega), ?_⟩
  have : (pre + 1).toNat = pre.toNat + 1 := by (first | lia | omega)
  rw [this, List.take_add_one, List.take_add_one, h3]
  have ha' : pre.toNat < (lst a).length := by rw [← len_lst]; (first | lia | omega)
  have hb' : pre.toNat < (lst b).length := by rw [← len_lst]; (first | lia | omega)
  rw [List.getElem?_eq_getElem ha', List.getElem?_eq_getElem hb'] at e ⊢
  simp at e
  simp [e]
theorem P2_start (a b : Str) : P2 a b 0 := ⟨by (first | lia | omega), by (first | lia | omega), by (first | lia | omega), by rw [List.drop_of_length_le, List.drop_of_length_le] <;> rw [← len_lst] <;> (first | lia | omega)⟩
theorem P2_next {a b : Str} {post : Int} (h : P2 a b post) (ha : -post < a.length) (hb : -post < b.length) (e : (Txt.item a (post - 1) == Txt.item b (post - 1)) = true) : P2 a b (post - 1) := by
  obtain ⟨h0, h1, h2, h3⟩ := h
  rw [item_neg (by (first | lia | omega)) (by (first | lia | omega)), item_neg (by (first | lia | omega)) (by (first | lia | omega)), one_beq] at e
  have e := eq_of_beq e
  refine ⟨by (first | lia | omega), by (first | lia | omega), by (first | lia | omega), ?_⟩
  have ha' : (a.length + (post - 1)).toNat < (lst a).length := by rw [← len_lst]; (first | lia | omega)
  have hb' : (b.length + (post - 1)).toNat < (lst b).length := by rw [← len_lst]; (first | lia | omega)
  rw [List.drop_eq_getElem_cons ha', List.drop_eq_getElem_cons hb']
  rw [List.getElem?_eq_getElem ha', List.getElem?_eq_getElem hb'] at e
  have ea : (a.length + (post - 1)).toNat + 1 = (a.length + post).toNat := by (first | lia | omega)
  have eb : (b.length + (post - 1)).toNat + 1 = (b.length + post).toNat := by (first | lia | omega)
  simp only [Option.getD_some] at e
  rw [ea, eb, h3, e]
local macro_rules | `(tactic| walk_at "subscriptTail Name Slice str ref") => `(tactic| ((with_reducible show wpAny _ _ (subscriptTail _ (Expr.Slice none (some (Expr.BoolOp _ _ _)) none _) _ _) _ _ _); (with_reducible rename Fr _ _ _ _ => F'); (with_reducible rename News _ _ _ _ => N'); refine slice_strN_nn_len (s := ⟨_, _, _, _, _⟩) F' N' ?_; intro _ _ _ _ _ _; simp only [slice_all]))
local macro_rules | `(tactic| walk_at "exec While") => `(tactic| (refine Held.out ?_))
local macro_rules | `(tactic| walk_at "EndA") => `(tactic| (dsimp only [EndA]))
local macro_rules | `(tactic| walk_at "JoinA") => `(tactic| first | (exfalso; (first | lia | omega)) | ((first | refine joinA_end (_, _) (by assumption) (by assumption) (by kst_in) (by kst_all) ?_ | refine joinA_end (_, _, _) (by assumption) (by assumption) (by kst_in) (by kst_all) ?_ | refine joinA_end (_, _, _, _) (by assumption) (by assumption) (by kst_in) (by kst_all) ?_); refine Held.out ?_))
local macro_rules | `(tactic| walk_at "exec Assign") => `(tactic| ((fail_if_success (rename HoldOff => hx)); (with_reducible show wpAny _ _ (exec (Stmt.Assign _ (Expr.Subscript _ (Expr.Slice none (some (Expr.BoolOp _ _ _)) none _) _) _) _) _ _ _); refine Held.out ?_))
local macro_rules | `(tactic| walk_at "exec If") => `(tactic| ((fail_if_success (rename HoldOff => hx)); (with_reducible show wpAny _ _ (exec (Stmt.If _ [Stmt.Assign [Expr.Tuple _ _ _] _ _] _ _) _) _ _ _); refine Held.out ?_))
local macro_rules | `(tactic| walk_at "call type:list") => `(tactic| ((rename IsRange _ _ _ _ _ _ _ _ => rgX); (refine list_range_step rfl (by k_asm) (by k_asm) rgX (range2_small _ (by (first | lia | omega))) (range2_size _) (by (first | lia | omega)) ?_); intro D' us' k' h' tk' F' N' l1 hI'; (try k_lt l1); (try k_sweep)))
local macro_rules | `(tactic| walk_at "pyIter ref") => `(tactic| (refine Held.out ?_))
local macro_rules | `(tactic| walk_at "call ref") => `(tactic| ((with_reducible show wpAny _ _ (call (Value.ref 104) _) _ _ _); k_dflt (refine' ctr_use (sub_ctr _ _ _ _ _ _ (fun _ => True) _ _ _ _ _) trivial ?k1 ?k2 ?k3 ?k4 ?k5 ?kK ?kp ?kd ?ku ?_; (case k1 => k_asm); (case k2 => k_asm); (case k3 => k_asm); (case k4 => k_asm); (case k5 => k_asm); (case kK => first | exact rfl | assumption); (case kp => exact ⟨by (first | lia | omega), by (first | lia | omega)⟩); (case kd => ktr_room); (case ku => ktr_units)); intro v' nw' h' tk' hr' F' N'; obtain ⟨⟨t', hv'⟩, hw'⟩ := hr'; subst hv' hw'))
local macro_rules | `(tactic| k_all) => `(tactic| assumption)
theorem lev_ctr (w : World) (p : Program) (loose : List Str) (mean : ExcName → Option Value) (mg mb : Str → Option Value) (Xt : Heap → Prop) (news : List (Addr × Obj)) (a b : Str) (mc : Int) (t1 t2 t3 : Tok) :
   Ctr (PySem.Challenge.rw_pe0114_03).row.prog w (hd.heap_39 w.params) p loose mean mg mb Xt 111 2 news (a.length ≤ 40 ∧ b.length ≤ 40 ∧ 0 ≤ mc ∧ mc ≤ 1000) [.str a t1, .str b t2, .int mc t3] (fun v nw => (∃ r t, v = .int r t ∧ LevOk a b mc r) ∧ nw = news) := by
  k_fill
  dsimp only [Ctr]
  intros; rename_i hpre _ _ hret
  obtain ⟨hla, hlb, hm0, hm1⟩ := hpre
  k_dflt cell_enter
  k_steps
  · exact hret _ _ _ _ ⟨⟨_, _, rfl, ok_same (by assumption)⟩, rfl⟩ (by k_asm) (by k_asm)
  refine Held.put ?_
  refine' while_all (σ := Int × Tok) (fun _ => news) (fun c => [(Str.ofString "pre", .int c.1 c.2), (Str.ofString "a", .str a t1), (Str.ofString "b", .str b t2), (Str.ofString "max_cost", .int mc t3)]) (fun c => P1 a b c.1) (fun c => a.length - c.1.toNat) (fun c => P1 a b c.1) (0, _) ?F ?N ?hk ?hp ?turn ?next
  case F => k_asm
  case N => k_asm
  case hk => kst_all
  case hp => exact P1_start a b
  case turn =>
    (rename Fr _ _ _ _ => oF; clear oF); (rename News _ _ _ _ => oN; clear oN)
    intro c u h tk hP F' N'
    obtain ⟨pre, tp⟩ := c
    have hP9 := hP
    obtain ⟨hP0, hP1, hP2, hP3⟩ := hP
    dsimp only [kstB] at F' hP9 hP0 hP1 hP2
    clear hP3
    try k_fold
    k_steps
    all_goals first | exact hP9 | exact ⟨P1_next hP9 (by (first | lia | omega)) (by (first | lia | omega)) (by assumption), by dsimp only; (first | lia | omega)⟩
  case next =>
    (rename Fr _ _ _ _ => oF; clear oF); (rename News _ _ _ _ => oN; clear oN)
    intro c u h tk hQ F' N'
    obtain ⟨pre, tp⟩ := c
    dsimp only [kstB] at F' hQ
    have hQ9 := hQ
    obtain ⟨hP0, hP1, hP2, hP3⟩ := hQ
    clear hP3
    try k_fold
    k_steps
    refine Held.put ?_
    obtain ⟨a1, hA⟩ : ∃ x, Txt.slice a (some pre) none = x := ⟨_, rfl⟩
    obtain ⟨b1, hB⟩ : ∃ x, Txt.slice b (some pre) none = x := ⟨_, rfl⟩
    have hla1 : a1.length ≤ 40 := by have := slice_len a (some pre) none; rw [hA] at this; (first | lia | omega)
    have hlb1 : b1.length ≤ 40 := by have := slice_len b (some pre) none; rw [hB] at this; (first | lia | omega)
    refine' while_all (σ := Int × Tok) (fun _ => news) (fun c => [(Str.ofString "post", .int c.1 c.2), (Str.ofString "a", .str a1 _), (Str.ofString "b", .str b1 _), (Str.ofString "max_cost", .int mc t3)]) (fun c => P2 a1 b1 c.1) (fun c => (a1.length + c.1).toNat) (fun c => P2 a1 b1 c.1) (0, _) ?F ?N ?hk ?hp ?turn ?next
    case F => k_asm
    case N => k_asm
    case hk => rw [← hA, ← hB]; kst_all
    case hp => exact P2_start a1 b1
    case turn =>
      (rename Fr _ _ _ _ => oF; clear oF); (rename News _ _ _ _ => oN; clear oN)
      intro c u h tk hP F' N'
      obtain ⟨post, tp⟩ := c
      have hP9 := hP
      obtain ⟨hP0, hP1, hP2, hP3⟩ := hP
      dsimp only [kstB] at F' hP9 hP0 hP1 hP2 hP3
      clear hP3
      try k_fold
      by_cases hz : post = 0
      · subst hz
        k_steps
        all_goals first | exact hP9 | exact ⟨P2_next hP9 (by (first | lia | omega)) (by (first | lia | omega)) (by assumption), by dsimp only; (first | lia | omega)⟩
      · have hz1 : post < 0 := by (first | lia | omega)
        have hs1 : ((Txt.slice a1 none (some post)).length : Int) = a1.length + post := by rw [len_lst, lst_to_neg hz1 (by (first | lia | omega)), List.length_take, ← len_lst]; (first | lia | omega)
        have hs2 : ((Txt.slice b1 none (some post)).length : Int) = b1.length + post := by rw [len_lst, lst_to_neg hz1 (by (first | lia | omega)), List.length_take, ← len_lst]; (first | lia | omega)
        clear hz
        k_steps
        all_goals first | exact hP9 | exact ⟨P2_next hP9 (by (first | lia | omega)) (by (first | lia | omega)) (by assumption), by dsimp only; (first | lia | omega)⟩
    case next =>
      (rename Fr _ _ _ _ => oF; clear oF); (rename News _ _ _ _ => oN; clear oN)
      intro c u h tk hQ F' N'
      obtain ⟨post, tp⟩ := c
      dsimp only [kstB] at F' hQ
      have hQ99 := hQ
      obtain ⟨hR0, hR1, hR2, hR3⟩ := hQ
      clear hR3
      try k_fold
      k_steps
      refine Held.put ?_
      refine cut_all (σ := Str × Tok × Tok) F' (fun _ => news) (fun c => [(Str.ofString "a", .str c.1 c.2.1), (Str.ofString "b", .str b1 c.2.2), (Str.ofString "max_cost", .int mc t3), (Str.ofString "post", .int post tp)]) (fun c => lst c.1 = (lst a1).take (a1.length + post).toNat) ?_ ?_
      · have ho : HoldOff := ⟨⟩
        by_cases hz : post = 0
        · subst hz
          k_steps
          all_goals (refine Held.put ?_; dsimp only; rw [List.take_of_length_le]; rw [← len_lst]; (first | lia | omega))
        · have hz1 : post < 0 := by (first | lia | omega)
          clear hz
          k_steps
          all_goals (refine Held.put ?_; exact lst_to_neg hz1 (by (first | lia | omega)))
      (rename Fr _ _ _ _ => oF; clear oF); (rename News _ _ _ _ => oN; clear oN)
      intro c u h tk hc F' N'
      obtain ⟨a2, ta, tb⟩ := c
      dsimp only [kstB] at F' hc
      k_steps
      refine Held.put ?_
      refine cut_all (σ := Str × Tok × Tok) F' (fun _ => news) (fun c => [(Str.ofString "a", .str a2 c.2.1), (Str.ofString "b", .str c.1 c.2.2), (Str.ofString "max_cost", .int mc t3)]) (fun c => lst c.1 = (lst b1).take (b1.length + post).toNat) ?_ ?_
      · have ho : HoldOff := ⟨⟩
        by_cases hz : post = 0
        · subst hz
          k_steps
          all_goals (refine Held.put ?_; dsimp only; rw [List.take_of_length_le]; rw [← len_lst]; (first | lia | omega))
        · have hz1 : post < 0 := by (first | lia | omega)
          clear hz
          k_steps
          all_goals (refine Held.put ?_; exact lst_to_neg hz1 (by (first | lia | omega)))
      (rename Fr _ _ _ _ => oF; clear oF); (rename News _ _ _ _ => oN; clear oN)
      intro c u h tk hd F' N'
      obtain ⟨b2, ta, tb⟩ := c
      dsimp only [kstB] at F' hd
      have hL := lev_strip hQ9 hA hB hQ99 hc hd
      have hla2 : a2.length ≤ 40 := by rw [len_lst, hc, List.length_take, ← len_lst]; (first | lia | omega)
      have hlb2 : b2.length ≤ 40 := by rw [len_lst, hd, List.length_take, ← len_lst]; (first | lia | omega)
      k_steps
      rotate_left
      · exact hret _ _ _ _ ⟨⟨_, _, rfl, ok_one hL (by (first | lia | omega))⟩, rfl⟩ (by k_asm) (by k_asm)
      · exact hret _ _ _ _ ⟨⟨_, _, rfl, ok_one hL (by (first | lia | omega))⟩, rfl⟩ (by k_asm) (by k_asm)
      have hne1 : 0 < a2.length := by (first | lia | omega)
      have hne2 : 0 < b2.length := by (first | lia | omega)
      refine Held.put ?_
      refine cut_all (σ := Str × Str × Tok × Tok) F' (fun _ => news) (fun c => [(Str.ofString "a", .str c.1 c.2.2.1), (Str.ofString "b", .str c.2.1 c.2.2.2), (Str.ofString "max_cost", .int mc t3)]) (fun c => ((c.1 = a2 ∧ c.2.1 = b2) ∨ (c.1 = b2 ∧ c.2.1 = a2)) ∧ c.1.length ≤ c.2.1.length) ?_ ?_
      · have ho : HoldOff := ⟨⟩
        k_steps
        · refine Held.put ⟨.inr ⟨rfl, rfl⟩, ?_⟩
          dsimp only; (first | lia | omega)
        · refine Held.put ⟨.inl ⟨rfl, rfl⟩, ?_⟩
          dsimp only; (first | lia | omega)
      (rename Fr _ _ _ _ => oF; clear oF); (rename News _ _ _ _ => oN; clear oN)
      intro c u h tk hsw F' N'
      obtain ⟨x, y, tx, ty⟩ := c
      dsimp only [kstB] at F' hsw
      obtain ⟨hsw, hxy⟩ := hsw
      have hL2 := hL.trans (lev_swap hsw)
      have hx1 : 0 < x.length := by rcases hsw with ⟨rfl, rfl⟩ | ⟨rfl, rfl⟩ <;> assumption
      have hy1 : 0 < y.length := by rcases hsw with ⟨rfl, rfl⟩ | ⟨rfl, rfl⟩ <;> assumption
      have hx2 : x.length ≤ 40 := by rcases hsw with ⟨rfl, rfl⟩ | ⟨rfl, rfl⟩ <;> assumption
      have hy2 : y.length ≤ 40 := by rcases hsw with ⟨rfl, rfl⟩ | ⟨rfl, rfl⟩ <;> assumption
      k_steps
      · exact hret _ _ _ _ ⟨⟨_, _, rfl, ok_far hL2 (by assumption)⟩, rfl⟩ (by k_asm) (by k_asm)
      refine Held.put ?_
      rename_i rD rus rk _ _ hlt hI _ _ _ _ _ _ _ _ _ _ _ _ _
      refine range_all (σ := List Value × List Int × Nat × Int × Tok) (n := y.length) (fun c => (rD, listOf c.1.toArray c.2.2.1) :: news)
        (fun c => [(Str.ofString "a", .str x tx), (Str.ofString "b", .str y ty), (Str.ofString "max_cost", .int mc t3), (Str.ofString "row", .ref rD), (Str.ofString "result", .int c.2.2.2.1 c.2.2.2.2)])
        (fun j c => IntsAre c.1 c.2.1 ∧ c.2.1 = rowAt (lst y) (lst x) j ∧ (0 < j → c.2.2.2.1 = Dd (lst y) (lst x) j x.length)) (rus, stepInts 2 2 x.length, rk, 0, _) rfl (by assumption) (small_one (by (first | lia | omega)) (by (first | lia | omega)) (by (first | lia | omega)) (by (first | lia | omega))) ?hn (by k_asm) (by k_asm) (by kst_all) ?hp ?turn ?done
      case hn => exact rangeSize_nat _ _
      case hp => exact ⟨hI, by rw [len_lst, row_start], fun h => absurd h (by (first | lia | omega))⟩
      case turn =>
        (rename Fr _ _ _ _ => oF; clear oF); (rename Fr _ _ _ _ => oF; clear oF); (rename News _ _ _ _ => oN; clear oN); (rename News _ _ _ _ => oN; clear oN)
        intro c j tj u h tk own hj hoff hP F' N'
        obtain ⟨vs, ns, ep, res, tr⟩ := c
        dsimp only [kstB] at F' hP N' hoff
        obtain ⟨hIs, hns, hres⟩ := hP
        k_steps
        refine Held.put ?_
        refine range_all (σ := List Value × List Int × Nat × Int × Tok × Int × Tok × Int × Tok) (n := x.length) (fun c => ((rD, listOf c.1.toArray c.2.2.1) :: news) ++ own)
          (fun c => [(Str.ofString "a", .str x tx), (Str.ofString "b", .str y ty), (Str.ofString "max_cost", .int mc t3), (Str.ofString "row", .ref rD), (Str.ofString "bchar", .str (Txt.item y (0 + j)) _), (Str.ofString "distance", .int c.2.2.2.1 c.2.2.2.2.1), (Str.ofString "result", .int c.2.2.2.2.2.1 c.2.2.2.2.2.2.1), (Str.ofString "minimum", .int c.2.2.2.2.2.2.2.1 c.2.2.2.2.2.2.2.2)])
          (fun i c => IntsAre c.1 c.2.1 ∧ c.2.1 = mixAt (lst y) (lst x) j i ∧ c.2.2.2.1 = Dd (lst y) (lst x) j i ∧ c.2.2.2.2.2.1 = resAt (lst y) (lst x) j i ∧ ∀ k, k < i → c.2.2.2.2.2.2.2.1 ≤ Dd (lst y) (lst x) (j + 1) (k + 1)) (vs, ns, ep, _, _, _, _, _, _) rfl (by assumption) (small_one (by (first | lia | omega)) (by (first | lia | omega)) (by (first | lia | omega)) (by (first | lia | omega))) ?hn2 (by k_asm) (by k_asm) (by kst_all) ?hp2 ?turn2 ?done2
        case hn2 => exact rangeSize_nat _ _
        case hp2 => exact ⟨hIs, by rw [hns, mix_start], by dsimp only; rw [D_zero _ _ _ (by rw [← len_lst]; (first | lia | omega))]; (first | lia | omega), by dsimp only [resAt]; rw [if_pos rfl]; (first | lia | omega), fun k hk => absurd hk (by (first | lia | omega))⟩
        case turn2 =>
          (rename Fr _ _ _ _ => oF; clear oF); (rename Fr _ _ _ _ => oF; clear oF); (rename News _ _ _ _ => oN; clear oN); (rename News _ _ _ _ => oN; clear oN)
          intro c i ti u h tk own2 hi hoff2 hP F' N'
          obtain ⟨vs, ns, ep, dist, td, res, tr, mn, tm⟩ := c
          dsimp only [kstB] at F' hP N' hoff2
          have hne := off_more (off_all hlt hoff (.head _)) hoff2 (.head _)
          simp only [List.cons_append] at N'
          obtain ⟨hIs, hns, hdist, hres, hmin⟩ := hP
          have hlen : ns.length = x.length := by rw [hns, mix_len, len_lst]
          clear hQ9 hQ99 hA hB hc hd hsw hlt hoff hoff2
          k_steps
          · have hV := dp_val y x j i hj hi dist res ns hns hdist hres
            dsimp only [EndR]
            rename IntsAre _ _ => hI9; rename News _ _ _ _ => hN9; rename Fr _ _ _ _ => hF9; rename (_ : Int) < mn => hl9
            rw [hV] at hI9 hN9 hF9 hl9
            refine joinA_end (_, ns.set (0 + (i : Int)).toNat (Dd (lst y) (lst x) (j + 1) (i + 1)), _, _, _, _, _, _, _) hF9 hN9 (fun _ h => h) (by kst_all) ?_
            exact ⟨rfl, hI9, dp_set y x j i hi ns hns, dp_get y x j i hi ns hns, dp_res y x j i, dp_min1 (d := fun k => Dd (lst y) (lst x) (j + 1) (k + 1)) hmin hl9⟩
          · have hV := dp_val y x j i hj hi dist res ns hns hdist hres
            dsimp only [EndR]
            rename IntsAre _ _ => hI9; rename News _ _ _ _ => hN9; rename Fr _ _ _ _ => hF9; rename ¬ (_ : Int) < mn => hl9
            rw [hV] at hI9 hN9 hF9 hl9
            refine joinA_end (_, ns.set (0 + (i : Int)).toNat (Dd (lst y) (lst x) (j + 1) (i + 1)), _, _, _, _, _, _, _) hF9 hN9 (fun _ h => h) (by kst_all) ?_
            exact ⟨rfl, hI9, dp_set y x j i hi ns hns, dp_get y x j i hi ns hns, dp_res y x j i, dp_min2 (d := fun k => Dd (lst y) (lst x) (j + 1) (k + 1)) hmin hl9⟩
        case done2 =>
          (rename Fr _ _ _ _ => oF; clear oF); (rename Fr _ _ _ _ => oF; clear oF); (rename News _ _ _ _ => oN; clear oN); (rename News _ _ _ _ => oN; clear oN)
          intro c u h tk hP F' N'
          obtain ⟨vs, ns, ep, dist, td, res, tr, mn, tm⟩ := c
          dsimp only [kstB] at F' hP N'
          obtain ⟨hIs, hns, hdist, hres, hmin⟩ := hP
          clear hlt hQ9 hQ99 hA hB hc hd hsw
          have hoff9 := hoff
          clear hoff
          k_steps
          · dsimp only [EndR]
            k_steps
            exact hret _ _ _ _ ⟨⟨_, _, rfl, ok_row hL2 hx1 hj hmin (by assumption)⟩, rfl⟩ (by k_asm) (by first | k_asm | (rename News _ _ _ _ => nX; exact fun p hp => nX p (List.mem_cons_of_mem _ (by first | exact hp | exact List.mem_append_left _ hp))))
          · dsimp only [EndR]
            refine joinA_end (_, ns, _, _, _) F' N' (fun _ h => h) (by kst_all) ?_
            exact ⟨rfl, hIs, by dsimp only; rw [hns, len_lst, mix_end], fun _ => by dsimp only; rw [hres, resAt, if_neg (by (first | lia | omega))]⟩
      case done =>
        (rename Fr _ _ _ _ => oF; clear oF); (rename Fr _ _ _ _ => oF; clear oF); (rename News _ _ _ _ => oN; clear oN); (rename News _ _ _ _ => oN; clear oN)
        intro c u h tk hP F' N'
        obtain ⟨vs, ns, ep, res, tr⟩ := c
        dsimp only [kstB] at F' hP N'
        obtain ⟨hIs, hns, hres⟩ := hP
        k_steps
        exact hret _ _ _ _ ⟨⟨_, _, rfl, ok_done hL2 (hres hy1)⟩, rfl⟩ (by k_asm) (by first | k_asm | (rename News _ _ _ _ => nX; exact fun p hp => nX p (List.mem_cons_of_mem _ (by first | exact hp | exact List.mem_append_left _ hp))))
end Mine
end
section
theorem Mine.forget_Rd3 : True := by
  w_top off
  trivial
open PySem PySem.W PyProof.Rows PySem.Calls PySem.Spec
set_option maxRecDepth 100000
set_option maxHeartbeats 8000000
namespace Mine
local macro_rules | `(tactic| k_all) => `(tactic| first | assumption | exact allLt_ne (by assumption) (by omega) | exact allLt_ne (And.right (by assumption)) (by omega) | exact allLt_ne (And.right (And.right (by assumption))) (by omega) | exact allLt_ne (And.right (And.right (And.right (by assumption)))) (by omega) | exact allLt_ne (And.right (And.right (And.right (And.right (by assumption))))) (by omega))
local macro_rules | `(tactic| walk_at "setAttr ref") => `(tactic| ((with_reducible show wpAny _ _ (setAttr _ (Str.ofString "read") _) _ _ _); k_dflt (refine' setAttr_fnN ?F ?N ?U ?_; (case F => k_asm); (case N => k_asm); (case U => k_updF)); intro d' hs' tk' kt' h' F' N' l1; (try dsimp only at N'); (try k_lt l1)))
local macro_rules | `(tactic| k_room) => `(tactic| ktr_room)
local macro_rules | `(tactic| k_units) => `(tactic| ktr_units)
abbrev tabFull (la lb : Nat) (c1 c2 : Addr) : Array Value := #[rawInt (la : Nat), rawInt (4 : Nat), .ref c1, rawInt (lb : Nat), rawInt (13 : Nat), .ref c2]
abbrev rdQual : Str := Str.ofString "_law_lexer.<locals>._law_read_on"
abbrev LexRet (prog : Program) (w : World) (K : Frag) (p : Program) (loose : List Str) (mean : ExcName → Option Value) (mg mb : Str → Option Value) (Xt : Heap → Prop) (la lb : Nat) (C P : Addr) (text : Str) (own : List (Addr × Obj)) (news : List (Addr × Obj)) (v : Value) (nw : List (Addr × Obj)) : Prop :=
  ∃ (x : Lx) (tp tl : Tok) (ea ep : Nat) (vs : Array Value) (t : Tok), v = .ref x.lx ∧ x.Ord ∧ ReadOk prog w K p loose mean mg mb Xt x text ∧ (∀ q ∈ (P, tabObj (tabFull la lb x.c1 x.c2)) :: (own ++ news), q.1 < x.cTx) ∧ x.oc1.data = .fields vs ∧ vs[1]? = some (.str rdQual t) ∧ (own = [] → @LT.lt Nat _ x.cTx x.c1 ∧ @LT.lt Nat _ x.cTx x.c2) ∧
    (own = [] ∨ own = [(x.c1, x.oc1), (x.c2, x.oc2)]) ∧ nw = x.led C ⟨0, 1, #[], tp, ea, tl, ep⟩ ++ (P, tabObj (tabFull la lb x.c1 x.c2)) :: news
theorem lexer_ctr (w : World) (p : Program) (loose : List Str) (mean : ExcName → Option Value) (mg mb : Str → Option Value) (news : List (Addr × Obj)) (a : Str) (t1 : Tok) :
   Ctr (PySem.Challenge.rw_pe0114_03).row.prog w (hd.heap_39 w.params) p loose mean mg mb (fun h => CodeHd h 117 113) 118 3 ((113, tabObj #[]) :: news) (a.length ≤ 1000 ∧ ∀ p ∈ news, p.1 ≠ 113) [.str a t1]
     (LexRet (PySem.Challenge.rw_pe0114_03).row.prog w (hd.heap_39 w.params) p loose mean mg mb (fun h => CodeHd h 117 113) 0x6b 0x6f 76 113 a [] news) := by
  k_fill
  dsimp only [Ctr]
  intros; rename_i hla _ _ hret; obtain ⟨hla, hn106⟩ := hla
  k_dflt (refine' code_defC ?k1 ?k2 ?k3 ?k4 ?k5 ?kA ?kF ?kK ?k6 ?k7 ?k8 ?k9 ?kB ?kD ?_ ?c2 ?c3 ?c4; (case kA => exact rfl); (case kF => exact rfl); (case kK => assumption); (case k1 => k_asm); (case k2 => k_asm); (case k3 => k_asm); (case k4 => k_asm); (case k5 => k_asm); (case k6 => k_is); (case k7 => k_is); (case k8 => ktr_room); (case k9 => exact BindsTo.of_eq rfl); (case kB => exact rfl); (case kD => decide +kernel); (case c2 => exact rfl); (case c3 => exact rfl); (case c4 => exact rfl); k_whole; intro g' L' h' tk' cells' FG' F' N' Y' B' X' T' l1; (try k_lt l1); k_cells Y'; (try simp only [List.cons_append, List.nil_append] at N'); (try dsimp only); (try k_lift B'); (try k_fold))
  rename CodeHd _ _ _ => codeHd
  k_steps
  rename News _ _ _ _ => nX
  refine hret _ _ _ _ ?r (by k_asm) (fun p hp => nX p (lex_perm p hp))
  refine ⟨{ pbL := _, lx := _, dx := _, sd := _, st := _, c2 := _, rd := _, c1 := _, atL := _, cAt := _, cTx := _, oc2 := _, oc1 := _, oAt := _, oTx := _, fst := _, frd := _, h1 := _, h2 := _, h3 := _, h4 := _, h5 := _, k1 := _, k2 := _, k3 := _, k4 := _, k5 := _, tw := _ }, _, _, _, _, _, _, rfl, ?_, ?_, ?_, by assumption, by assumption, fun _ => ⟨by (refine ltN ?_; dsimp only; omega), by (refine ltN ?_; dsimp only; omega)⟩, .inl rfl, rfl⟩
  · constructor <;> dsimp only
    all_goals first | (refine ltN ?_; omega) | (right; constructor <;> (refine ltN ?_; omega))
  · (repeat (rename Fr _ _ _ _ => oF; clear oF)); (repeat (rename News _ _ _ _ => oN; clear oN)); (repeat (rename Below _ _ _ _ => oB; clear oB)); (repeat (rename Top _ _ _ _ _ _ => oT; clear oT)); (repeat (rename Frag.In _ _ => oX; clear oX)); clear codeHd hret
    intro pos tp ea t rest
    dsimp only [Ctr]
    intros
    rename_i codeHd _ _ _ _ _ _ hpre _ _ hret
    obtain ⟨hp0, hp1, hrest⟩ := hpre
    simp only [List.cons_append, List.nil_append] at *
    k_dflt (refine' code_nest ?k1 ?k2 ?k3 ?k4 ?k5 ?kA ?kF ?kK ?k6 ?k7 ?k8 ?k9 ?kB ?_ ?c2 ?c3 ?c4 ?c5; (case kA => exact rfl); (case kF => exact rfl); (case kK => assumption); (case k1 => k_asm); (case k2 => k_asm); (case k3 => k_asm); (case k4 => k_asm); (case k5 => k_asm); (case k6 => k_mem); (case k7 => exact codeRec_news (by k_asm) (by k_mem) (by assumption) (by assumption)); (case k8 => ktr_room); (case k9 => exact BindsTo.of_eq rfl); (case c5 => decide); (case kB => exact locs rfl); (case c2 => exact rfl); (case c3 => exact rfl); (case c4 => exact rfl); k_whole; intro g' L' h' FG' F' N' B' X' T'; (try dsimp only); (try k_lift B'); (try k_fold))
    k_steps
    exact hret _ _ _ _ ⟨_, _, rfl, rfl⟩ (by k_asm) (by k_asm)
  · intro q hq
    dsimp only
    rcases List.mem_cons.mp hq with rfl | hq
    · refine ltN ?_; dsimp only; omega
    · refine Nat.lt_of_lt_of_le ?_ (Nat.le_succ _)
      first | exact allLt_mem (And.right (by assumption)) hq | exact allLt_mem (by assumption) hq
end Mine
end
section
theorem Mine.forget_RdB3 : True := by
  w_top off
  trivial
local macro_rules | `(tactic| walk_at "no such key 0") => `(tactic| fail)
open PySem PySem.W PyProof.Rows PySem.Calls PySem.Spec
set_option maxRecDepth 100000
set_option maxHeartbeats 8000000
namespace Mine
theorem lex_permB {a1 a2 a3 a4 a5 a7 a9 a10 a11 b c1 c2 : Addr × Obj} {rest : List (Addr × Obj)} : ∀ p ∈ a7 :: c1 :: a9 :: a10 :: a11 :: a1 :: a2 :: a3 :: a4 :: a5 :: c2 :: b :: rest, p ∈ a1 :: a2 :: a3 :: a4 :: a5 :: a7 :: a9 :: a10 :: a11 :: b :: c1 :: c2 :: rest := by
  intro p hp
  simp only [List.mem_cons] at hp ⊢
  rcases hp with h | h | h | h | h | h | h | h | h | h | h | h | h <;> simp [h]
local macro_rules | `(tactic| k_all) => `(tactic| first | assumption | exact allLt_ne (by assumption) (by omega) | exact allLt_ne (And.right (by assumption)) (by omega) | exact allLt_ne (And.right (And.right (by assumption))) (by omega) | exact allLt_ne (And.right (And.right (And.right (by assumption)))) (by omega) | exact allLt_ne (And.right (And.right (And.right (And.right (by assumption))))) (by omega))
local macro_rules | `(tactic| walk_at "setAttr ref") => `(tactic| ((with_reducible show wpAny _ _ (setAttr _ (Str.ofString "read") _) _ _ _); k_dflt (refine' setAttr_fnN ?F ?N ?U ?_; (case F => k_asm); (case N => k_asm); (case U => k_updF)); intro d' hs' tk' kt' h' F' N' l1; (try dsimp only at N'); (try k_lt l1)))
local macro_rules | `(tactic| k_room) => `(tactic| ktr_room)
local macro_rules | `(tactic| k_units) => `(tactic| ktr_units)
theorem lexer_ctrB (w : World) (p : Program) (loose : List Str) (mean : ExcName → Option Value) (mg mb : Str → Option Value) (news : List (Addr × Obj)) (a : Str) (t1 : Tok) (c1 c2 : Addr) (oc1 oc2 : Obj) (vs : Array Value) (tq : Tok) :
   Ctr (PySem.Challenge.rw_pe0114_03).row.prog w (hd.heap_39 w.params) p loose mean mg mb (fun h => CodeHd h 117 113) 118 3 ((113, tabObj (tabFull 0x6b 0x6f c1 c2)) :: (c1, oc1) :: (c2, oc2) :: news) (a.length ≤ 1000 ∧ (∀ p ∈ news, p.1 ≠ 113) ∧ oc1.data = .fields vs ∧ vs[1]? = some (.str rdQual tq)) [.str a t1]
     (LexRet (PySem.Challenge.rw_pe0114_03).row.prog w (hd.heap_39 w.params) p loose mean mg mb (fun h => CodeHd h 117 113) 0x6b 0x6f 76 113 a [(c1, oc1), (c2, oc2)] news) := by
  k_fill
  dsimp only [Ctr]
  intros; rename_i hla _ _ hret; obtain ⟨hla, hn106, hq1, hq2⟩ := hla
  k_dflt (refine' code_defC ?k1 ?k2 ?k3 ?k4 ?k5 ?kA ?kF ?kK ?k6 ?k7 ?k8 ?k9 ?kB ?kD ?_ ?c2 ?c3 ?c4; (case kA => exact rfl); (case kF => exact rfl); (case kK => assumption); (case k1 => k_asm); (case k2 => k_asm); (case k3 => k_asm); (case k4 => k_asm); (case k5 => k_asm); (case k6 => k_is); (case k7 => k_is); (case k8 => ktr_room); (case k9 => exact BindsTo.of_eq rfl); (case kB => exact rfl); (case kD => decide +kernel); (case c2 => exact rfl); (case c3 => exact rfl); (case c4 => exact rfl); k_whole; intro g' L' h' tk' cells' FG' F' N' Y' B' X' T' l1; (try k_lt l1); k_cells Y'; (try simp only [List.cons_append, List.nil_append] at N'); (try dsimp only); (try k_lift B'); (try k_fold))
  rename CodeHd _ _ _ => codeHd
  k_steps
  rename News _ _ _ _ => nX
  refine hret _ _ _ _ ?r (by k_asm) (fun p hp => nX p (lex_permB p hp))
  refine ⟨{ pbL := _, lx := _, dx := _, sd := _, st := _, c2 := c2, rd := _, c1 := c1, atL := _, cAt := _, cTx := _, oc2 := _, oc1 := _, oAt := _, oTx := _, fst := _, frd := _, h1 := _, h2 := _, h3 := _, h4 := _, h5 := _, k1 := _, k2 := _, k3 := _, k4 := _, k5 := _, tw := _ }, _, _, _, _, _, _, rfl, ?_, ?_, ?_, hq1, hq2, (fun e => nomatch e), .inr rfl, rfl⟩
  · constructor <;> dsimp only
    all_goals first | (refine ltN ?_; omega) | (left; (refine ltN ?_; omega))
  · (repeat (rename Fr _ _ _ _ => oF; clear oF)); (repeat (rename News _ _ _ _ => oN; clear oN)); (repeat (rename Below _ _ _ _ => oB; clear oB)); (repeat (rename Top _ _ _ _ _ _ => oT; clear oT)); (repeat (rename Frag.In _ _ => oX; clear oX)); clear codeHd hret
    intro pos tp ea t rest
    dsimp only [Ctr]
    intros
    rename_i codeHd _ _ _ _ _ _ hpre _ _ hret
    obtain ⟨hp0, hp1, hrest⟩ := hpre
    simp only [List.cons_append, List.nil_append] at *
    k_dflt (refine' code_nest ?k1 ?k2 ?k3 ?k4 ?k5 ?kA ?kF ?kK ?k6 ?k7 ?k8 ?k9 ?kB ?_ ?c2 ?c3 ?c4 ?c5; (case kA => exact rfl); (case kF => exact rfl); (case kK => assumption); (case k1 => k_asm); (case k2 => k_asm); (case k3 => k_asm); (case k4 => k_asm); (case k5 => k_asm); (case k6 => k_mem); (case k7 => exact codeRec_news (by k_asm) (by k_mem) (by assumption) (by assumption)); (case k8 => ktr_room); (case k9 => exact BindsTo.of_eq rfl); (case c5 => decide); (case kB => exact locs rfl); (case c2 => exact rfl); (case c3 => exact rfl); (case c4 => exact rfl); k_whole; intro g' L' h' FG' F' N' B' X' T'; (try dsimp only); (try k_lift B'); (try k_fold))
    k_steps
    exact hret _ _ _ _ ⟨_, _, rfl, rfl⟩ (by k_asm) (by k_asm)
  · intro q hq
    dsimp only
    rcases List.mem_cons.mp hq with rfl | hq
    · refine ltN ?_; dsimp only; omega
    · refine Nat.lt_of_lt_of_le ?_ (Nat.le_succ _)
      first | exact allLt_mem (And.right (by assumption)) hq | exact allLt_mem (by assumption) hq
end Mine
end
section
theorem Mine.forget_Rc3 : True := by
  w_top off
  trivial
open PySem PySem.W PyProof.Rows PySem.Calls PySem.Spec
set_option maxRecDepth 100000
set_option maxHeartbeats 8000000
namespace Mine
local macro_rules | `(tactic| k_all) => `(tactic| assumption)
local macro_rules | `(tactic| k_room) => `(tactic| ktr_room)
local macro_rules | `(tactic| k_units) => `(tactic| ktr_units)
local macro_rules | `(tactic| walk_at "getMethod ref") => `(tactic| ((with_reducible show wpAny _ _ (getMethod _ (Str.ofString "read") _) _ _ _); (rename News _ _ _ _ => nX); k_dflt (refine getMethod_fn (nX.get (by k_mem)) (nX.get (by k_mem)) ?_); intro tk'))
local macro_rules | `(tactic| walk_at "callWith ref") => `(tactic| (k_dflt (refine' callWith_F ?k1 ?_; (case k1 => exact FnAt.of (by k_asm) (by k_mem)); k_whole)))
local macro_rules | `(tactic| walk_at "call ref") => `(tactic| (refine Held.out ?_))
theorem read_char_ctr (w : World) (p : Program) (loose : List Str) (mean : ExcName → Option Value) (mg mb : Str → Option Value) (Xt : Heap → Prop) (x : Lx) (y : Ls) (text : Str) (rest : List (Addr × Obj)) :
   Ctr (PySem.Challenge.rw_pe0114_03).row.prog w (hd.heap_39 w.params) p loose mean mg mb Xt 59 2 (x.led 76 y ++ rest)
     (x.Ord ∧ ReadOk (PySem.Challenge.rw_pe0114_03).row.prog w (hd.heap_39 w.params) p loose mean mg mb Xt x text ∧ text.length ≤ 1000 ∧ 0 ≤ y.pos ∧ y.pos ≤ text.length ∧ 0 ≤ y.ln ∧ y.ln ≤ 100000 ∧ (∀ q ∈ rest, q.1 ≠ x.atL) ∧ ∀ q ∈ rest, q.1 ≠ x.dx) [.ref x.lx]
     (fun v nw => ∃ tv tp tl, v = .str (chAt text y.pos) tv ∧ nw = x.led 76 { y with pos := y.pos + (chAt text y.pos).length, ln := y.ln + (if chAt text y.pos = Str.ofString "\n" then 1 else 0), tp := tp, tl := tl } ++ rest) := by
  k_fill
  dsimp only [Ctr]
  intros
  rename_i hXt _ _ _ _ _ _ hpre _ _ hret
  obtain ⟨⟨a1, a2, a3, a4, a5, a6, a7, a8, a9, a10⟩, hrd, htl, hp0, hp1, hl0, hl1, hra, hrb⟩ := hpre
  rename News _ _ _ _ => hN0
  simp only [List.cons_append, List.nil_append] at hN0
  k_dflt cell_enter
  k_steps
  refine Held.put ?_
  k_dflt (refine' ctr_use (hrd y.pos y.tp y.ea _ (x.more 76 y ++ rest)) hXt ?k1 ?k2 ?k3 ?k4 ?k5 ?kK ?kp ?kd ?ku ?_; (case k1 => k_asm); (case k2 => k_asm); (case k3 => k_asm); (case k4 => k_asm); (case k5 => k_asm); (case kK => first | exact rfl | assumption); (case kd => ktr_room); (case ku => ktr_units))
  case kp =>
    refine ⟨hp0, hp1, ?_⟩
    simp only [List.cons_append, List.nil_append]
    intro q hq
    simp only [List.mem_cons] at hq
    rcases hq with h | h | h | h | h | h | h
    all_goals first | exact hra q h | (rw [h]; refine neN ?_; dsimp only; omega)
  intro v' nw' h' tk' hr' F' N'
  obtain ⟨tv, tp', rfl, rfl⟩ := hr'
  simp only [List.cons_append, List.nil_append] at N'
  k_steps
  · exact hret _ _ _ _ ⟨_, _, _, rfl, by rw [if_pos (eq_of_beq (by assumption))]⟩ (by k_asm) (by k_asm)
  · exact hret _ _ _ _ ⟨_, _, y.tl, rfl, by rw [if_neg (ne_of_beq_false (by assumption)), Int.add_zero]⟩ (by k_asm) (by k_asm)
end Mine
end
section
theorem Mine.forget_Gt3 : True := by
  w_top off
  trivial
open PySem PySem.W PyProof.Rows PySem.Calls PySem.Spec
set_option maxRecDepth 100000
set_option maxHeartbeats 8000000
namespace Mine
local macro_rules | `(tactic| k_all) => `(tactic| assumption)
local macro_rules | `(tactic| k_room) => `(tactic| ktr_room)
local macro_rules | `(tactic| k_units) => `(tactic| ktr_units)
local macro_rules | `(tactic| walk_at "truthy ref") => `(tactic| ((rename News _ _ _ _ => nX); k_dflt (refine wpAny_truthy_list (items := #[]) (nX.isList (by k_mem)) (by decide) ?_)))
local macro_rules | `(tactic| walk_at "exec For") => `(tactic| (refine Held.out ?_))
local macro_rules | `(tactic| walk_at "exec If") => `(tactic| ((fail_if_success (rename HoldOff => hx)); (with_reducible show wpAny _ _ (exec (Stmt.If _ [Stmt.Assign _ _ _] _ _) _) _ _ _); refine Held.out ?_))
local macro_rules | `(tactic| walk_at "call ref") => `(tactic| (with_reducible show wpAny _ _ (call (Value.ref 59) _) _ _ _); (refine Held.out ?_))
local macro_rules | `(tactic| walk_at "call builtin:iter") => `(tactic| ((rename News _ _ _ _ => nX); (rename Fr _ _ _ _ => fX); k_dflt (refine iter2_N fX nX (by k_mem) ?_); intro it' h' F' N' l1; (try k_lt l1)))
theorem ctr_code {prog : Program} {w : World} {K : Frag} {p : Program} {loose : List Str} {mean : ExcName → Option Value} {mg mb : Str → Option Value} {Xt : Heap → Prop} {f : Addr} {rm : Nat} {news : List (Addr × Obj)} {pre : Prop} {vs : List Value} {Ret : Value → List (Addr × Obj) → Prop}
    {dp un : Nat} {gd : Option (List Code)} {cn : Str} {cs : Scope} {a : Addr} {ccd : Value} {cl : List (Str × Addr)} {outer : List Env} {A₀ : Around} {base h₀ : Heap} {L : Addr} {m : Str → Option Value} {s : Shared} {Q E : Value → Shared → Prop}
    (C : Ctr prog w K p loose mean mg mb Xt f rm news pre vs Ret) (X0 : Xt base) (B : Below A₀ base outer h₀) (F : Fr h₀ L s.heap m) (X : K.In h₀) (N : News h₀ L s.heap news) (T : Top p loose mean mg mb h₀) (hk : cs.kind = .function)
    (hp : pre) (hd : dp + rm < recursionLimit) (hu : un + 8 * rm < cLine)
    (ret : ∀ v news' h' tk', Ret v news' → Fr h₀ L h' m → News h₀ L h' news' → Q v { s with heap := h', toks := tk' }) :
      codeAny (model prog w) (ktrTop dp un gd cn cs L a ccd cl outer) (.call (.ref f) ⟨vs, []⟩) (fun r s' => match r with | .ok (.ret v) => Q v s' | .ok _ => False | .error e => E e s') s := C _ _ _ _ _ _ _ _ _ _ _ _ _ _ _ _ _ X0 B F X N T hk hp hd hu ret
theorem it_swap {a b : Addr × Obj} {l rest : List (Addr × Obj)} : ∀ p ∈ l ++ a :: b :: rest, p ∈ a :: b :: (l ++ rest) := by
  intro p hp
  simp only [List.mem_append, List.mem_cons] at hp ⊢
  rcases hp with h | h | h | h <;> simp [h]
theorem it_drop {a b : Addr × Obj} {l rest : List (Addr × Obj)} : ∀ p ∈ l ++ rest, p ∈ l ++ a :: b :: rest := by
  intro p hp
  simp only [List.mem_append, List.mem_cons] at hp ⊢
  rcases hp with h | h <;> simp [h]
theorem it_tok {h₀ h : Heap} {L it : Addr} {v : Value} {e : Str} {t : Tok} {l : List (Addr × Obj)} (N : News h₀ L h ((it, ciO v (.str e t) false) :: l)) : ∃ ts, News h₀ L h ((it, ciO v (.str e ts) false) :: l) := ⟨t, N⟩
theorem fr_but {h₀ h h' : Heap} {L it : Addr} {m : Str → Option Value} {o : Obj} {news : List (Addr × Obj)} (F : Fr h₀ L h m) (N : News h₀ L h news) (hm : (it, o) ∈ news) (hk : ∀ b o, b ≠ it → h.get? b = some o → h'.get? b = some o) : Fr h₀ L h' m :=
  ⟨F.ns.at fun o e => hk _ o (fun z => (N _ hm).2.1 z.symm) e, fun b o e => hk b o (fun z => by have h1 := (N _ hm).2.2; dsimp only at h1; rw [← z, e] at h1; cases h1) (F.keep b o e), F.above⟩
theorem news_but {h₀ h h' : Heap} {L it : Addr} {o o' : Obj} {own rest : List (Addr × Obj)} (N : News h₀ L h (own ++ (it, o) :: rest)) (h1 : ∀ p ∈ own, p.1 ≠ it) (h2 : ∀ p ∈ rest, p.1 ≠ it) (ho : h'.get? it = some o') (hk : ∀ b o, b ≠ it → h.get? b = some o → h'.get? b = some o) : News h₀ L h' (own ++ (it, o') :: rest) := by
  intro p hp
  rcases List.mem_append.mp hp with hp | hp
  · have := N p (List.mem_append_left _ hp)
    exact ⟨hk _ _ (h1 p hp) this.1, this.2⟩
  · rcases List.mem_cons.mp hp with rfl | hp
    · exact ⟨ho, (N (it, o) (List.mem_append_right _ (.head _))).2⟩
    · have := N p (List.mem_append_right _ (.tail _ hp))
      exact ⟨hk _ _ (h2 p hp) this.1, this.2⟩
theorem lst_empty : lst (Str.ofString "") = [] := by rw [ofEmpty]
theorem gtok_nil : gtok [] = ([], []) := by simp [gtok]
structure Es where
  e : Str
  te : Tok
  pos : Int
  ln : Int
  tp : Tok
  tl : Tok
/-- the loop's state -/
structure Gs where
  live : Bool
  pos : Int
  ln : Int
  tok : Str
  tp : Tok
  tl : Tok
  tt : Tok
abbrev Gs.ls (g : Gs) (ea ep : Nat) : Ls := ⟨g.pos, g.ln, #[], g.tp, ea, g.tl, ep⟩
abbrev itO (q : Addr) (ts : Tok) (live : Bool) : Obj := if live then ciO (.ref q) (.str (Str.ofString "") ts) false else ciO .none .none true
def Gs.Inv (text : Str) (T R : List Nat) (Z : Int) (g : Gs) : Prop :=
  0 ≤ g.pos ∧ g.pos ≤ text.length ∧ 0 ≤ g.ln ∧ g.ln + (txR text g.pos).length ≤ 60000 ∧ g.tok.length + (txR text g.pos).length ≤ text.length ∧ g.ln + nls (txR text g.pos) = Z ∧
    (if g.live then g.tok = Str.ofString "" ∧ okTok (txR text g.pos) ∧ gtok (txR text g.pos) = (T, R) else lst g.tok = T ∧ txR text g.pos = R)
def Gs.Inv2 (text : Str) (T R : List Nat) (Z : Int) (g : Gs) : Prop :=
  0 ≤ g.pos ∧ g.pos ≤ text.length ∧ 0 ≤ g.ln ∧ g.ln + (txR text g.pos).length ≤ 60000 ∧ g.tok.length + (txR text g.pos).length ≤ text.length ∧ g.ln + nls (txR text g.pos) = Z ∧
    (if g.live then lst g.tok ++ (unq (txR text g.pos)).1 = T ∧ (unq (txR text g.pos)).2 = R else lst g.tok = T ∧ txR text g.pos = R)
def TokRet (C : Addr) (x : Lx) (text : Str) (pos ln : Int) (ea ep : Nat) (rest : List (Addr × Obj)) (v : Value) (nw : List (Addr × Obj)) : Prop :=
  ∃ (pos' ln' : Int) (tp tl tv : Tok), v = .str ⟨(gtok (txR text pos)).1.toArray⟩ tv ∧ 0 ≤ pos' ∧ pos' ≤ text.length ∧ txR text pos' = (gtok (txR text pos)).2 ∧ ln' + nls (gtok (txR text pos)).2 = ln + nls (txR text pos) ∧ 0 ≤ ln' ∧ nw = x.led C ⟨pos', ln', #[], tp, ea, tl, ep⟩ ++ rest
theorem led_lt {x : Lx} (h : x.Ord) {C : Addr} {y : Ls} {D : Addr} (hD : @LT.lt Nat _ x.pbL D) : ∀ z ∈ x.led C y, @LT.lt Nat _ z.1 D := by
  obtain ⟨a1, a2, a3, a4, a5, a6, a7, a8, a9, a10⟩ := h
  have b9 := Nat.lt_trans a10 hD
  have b8 := Nat.lt_trans a9 b9
  have b7 := Nat.lt_trans a8 b8
  have b6 := Nat.lt_trans a7 b7
  have b5 := Nat.lt_trans a5 b6
  have b3 := Nat.lt_trans a3 b5
  have b2 := Nat.lt_trans a2 b3
  have b1 := Nat.lt_trans a1 b2
  have c1 : @LT.lt Nat _ x.c1 D := a4.elim (fun h => Nat.lt_trans h b1) (fun h => Nat.lt_trans h.2 b5)
  have c2 : @LT.lt Nat _ x.c2 D := a6.elim (fun h => Nat.lt_trans h b1) (fun h => Nat.lt_trans h.2 b6)
  intro z hz
  simp only [Lx.led, Lx.core, Lx.more, List.cons_append, List.nil_append, List.mem_cons, List.not_mem_nil, or_false] at hz
  rcases hz with rfl | rfl | rfl | rfl | rfl | rfl | rfl | rfl | rfl | rfl | rfl <;> assumption
theorem get_token_ctr (w : World) (p : Program) (loose : List Str) (mean : ExcName → Option Value) (mg mb : Str → Option Value) (Xt : Heap → Prop) (x : Lx) (pos ln : Int) (tp : Tok) (ea : Nat) (tl : Tok) (ep : Nat) (text : Str) (rest : List (Addr × Obj)) :
   Ctr (PySem.Challenge.rw_pe0114_03).row.prog w (hd.heap_39 w.params) p loose mean mg mb Xt 66 4 (x.led 76 ⟨pos, ln, #[], tp, ea, tl, ep⟩ ++ rest)
     (x.Ord ∧ ReadOk (PySem.Challenge.rw_pe0114_03).row.prog w (hd.heap_39 w.params) p loose mean mg mb Xt x text ∧ text.length ≤ 1000 ∧ 0 ≤ pos ∧ pos ≤ text.length ∧ 0 ≤ ln ∧ ln ≤ 50000 ∧ (∀ q ∈ rest, q.1 ≠ x.atL) ∧ (∀ q ∈ rest, q.1 ≠ x.dx) ∧ okTok (txR text pos)) [.ref x.lx]
     (TokRet 76 x text pos ln ea ep rest) := by
  k_fill
  dsimp only [Ctr]
  intros
  rename_i hXt _ _ _ _ _ _ hpre _ _ hret
  obtain ⟨hOrd, hrd, htl, hp0, hp1, hl0, hl1, hra, hrb, hok⟩ := hpre
  obtain ⟨a1, a2, a3, a4, a5, a6, a7, a8, a9, a10⟩ := id hOrd
  rename News _ _ _ _ => hN0
  simp only [List.cons_append, List.nil_append] at hN0
  k_dflt cell_enter
  k_steps
  refine Held.put ?_
  rename_i q _ l1 it _ l2 _ F5 N5
  obtain ⟨ts, N5⟩ := it_tok N5
  have hrc : ∀ z ∈ rest, z.1 ≠ it := by
    obtain ⟨_, _, _, _, _, _, _, _, _, _, _, _, lr⟩ := l2
    exact fun z hz => Nat.ne_of_lt (kst_ltOf lr z hz)
  refine wpAny_For ?_
  k_dflt (refine ld F5 rfl ?_)
  refine iter_ci (N5 _ (.head _)).1 ?_
  refine' for_all (σ := Gs) (fun g => x.led 76 (g.ls ea ep) ++ (it, itO q ts g.live) :: (q, methodObj (.ref 59) (.ref x.lx)) :: rest)
    (fun g => [(Str.ofString "self", .ref x.lx), (Str.ofString "token", .str g.tok g.tt), (Str.ofString "fiter", .ref it)])
    (Gs.Inv text (gtok (txR text pos)).1 (gtok (txR text pos)).2 (ln + nls (txR text pos))) (fun g => if g.live then (txR text g.pos).length + 1 else 0)
    (fun g => g.live = false ∧ Gs.Inv text (gtok (txR text pos)).1 (gtok (txR text pos)).2 (ln + nls (txR text pos)) g) ⟨true, pos, ln, Str.ofString "", tp, tl, _⟩ F5 (fun p hp => N5 p (it_swap p hp)) ?hk ?hp ?turn ?next
  case hk => kst_all
  case hp =>
    refine ⟨hp0, hp1, hl0, ?_, ?_, rfl, ?_⟩
    · dsimp only; rw [tx_len hp0 hp1]; omega
    · dsimp only; rw [← Int.ofNat_le]; push_cast; rw [tx_len hp0 hp1]; show ((Str.ofString "").length : Int) + _ ≤ _; rw [ofEmpty]; show (0 : Int) + _ ≤ _; omega
    · exact ⟨rfl, hok, rfl⟩
  case next =>
    clear F5 N5
    intro g u h tk hg F' N'
    obtain ⟨live, pos', ln', tok, tp', tl', tt⟩ := g
    obtain ⟨hlv, hi0, hi1, hi2, hi3, hi4, hi5, hi6⟩ := hg
    dsimp only at hlv hi0 hi1 hi2 hi3 hi4 hi5 hi6
    subst hlv
    obtain ⟨hi6, hi7⟩ := hi6
    dsimp only [kstB] at F'
    simp only [List.cons_append, List.nil_append] at N'
    k_steps
    refine hret _ _ _ _ ⟨pos', ln', tp', tl', tt, ?_, hi0, hi1, hi7, ?_, hi2, rfl⟩ (by k_asm) ?_
    · rw [← hi6]
    · rw [← hi7]; exact hi5
    · rename News _ _ _ _ => nX
      exact fun p hp => nX p (it_drop (l := x.led 76 ⟨pos', ln', #[], tp', ea, tl', ep⟩) p hp)
  case turn =>
    clear F5 N5
    intro g u h tk hg F' N'
    obtain ⟨live, pos', ln', tok, tp', tl', tt⟩ := g
    obtain ⟨hi0, hi1, hi2, hi3, hi4, hi5, hi6⟩ := hg
    dsimp only at hi0 hi1 hi2 hi3 hi4 hi5 hi6
    have hq1 : ∀ o : Obj, ∀ z ∈ (it, o) :: (q, methodObj (.ref 59) (.ref x.lx)) :: rest, z.1 ≠ x.atL := by
      intro o z hz
      rcases List.mem_cons.mp hz with h | hz
      · rw [h]; refine neN ?_; dsimp only; omega
      rcases List.mem_cons.mp hz with h | hz
      · rw [h]; refine neN ?_; dsimp only; omega
      · exact hra z hz
    have hq2 : ∀ o : Obj, ∀ z ∈ (it, o) :: (q, methodObj (.ref 59) (.ref x.lx)) :: rest, z.1 ≠ x.dx := by
      intro o z hz
      rcases List.mem_cons.mp hz with h | hz
      · rw [h]; refine neN ?_; dsimp only; omega
      rcases List.mem_cons.mp hz with h | hz
      · rw [h]; refine neN ?_; dsimp only; omega
      · exact hrb z hz
    cases live with
    | false =>
      obtain ⟨hi6, hi7⟩ := hi6
      refine next_ci_end (N' (it, _) (List.mem_append_right _ (.head _))).1 rfl fun h' hk => ?_
      refine joinA_end ⟨false, pos', ln', tok, tp', tl', tt⟩ (F'.keeps hk) (fun p hp => ⟨hk _ _ (N' p hp).1, (N' p hp).2⟩) (fun _ h => h) (by kst_all) ⟨rfl, hi0, hi1, hi2, hi3, hi4, hi5, hi6, hi7⟩
    | true =>
      obtain ⟨hi6, hi7, hi8⟩ := hi6
      subst hi6
      refine next_ci (N' (it, _) (List.mem_append_right _ (.head _))).1 (N' (q, _) (List.mem_append_right _ (.tail _ (.head _)))).1 ⟨_, _, _, _, Frag.In.keeps (by k_asm) F'.keep _ _ (by k_dflt k_is)⟩ rfl ?_
      k_dflt (refine call_meth N' (List.mem_append_right _ (.tail _ (.head _))) ?_)
      k_dflt (refine' ctr_code (read_char_ctr w p loose mean mg mb Xt x ⟨pos', ln', #[], tp', ea, tl', ep⟩ text _) hXt ?k1 F' ?k3 N' ?k5 ?kK ?kp ?kd ?ku ?_; (case k1 => k_asm); (case k3 => k_asm); (case k5 => k_asm); (case kK => first | exact rfl | assumption); (case kd => ktr_room); (case ku => ktr_units))
      case kp => exact ⟨hOrd, hrd, htl, hi0, hi1, hi2, by dsimp only; omega, hq1 _, hq2 _⟩
      rintro v nw h2 tk2 ⟨tv, tp2, tl2, rfl, rfl⟩ F2 N2
      refine ⟨_, tv, rfl, (N2 (it, _) (List.mem_append_right _ (.head _))).1, (N2 (q, _) (List.mem_append_right _ (.tail _ (.head _)))).1, ⟨_, _, _, _, Frag.In.keeps (by k_asm) F2.keep _ _ (by k_dflt k_is)⟩, ?_, ?_⟩
      · intro hne tk3
        have hlt : pos' < text.length := by
          rcases Int.lt_or_eq_of_le hi1 with h | h
          · exact h
          · exact absurd (ch_end h).1 hne
        obtain ⟨c, hc, hr⟩ := ch_at hi0 hlt
        dsimp only at N2 ⊢
        rw [hc] at N2 ⊢
        clear N'
        rw [hr] at hi3 hi4 hi5 hi7 hi8
        simp only [List.cons_append, List.nil_append] at N2
        dsimp only [kstB] at F2
        clear F'
        have hl1 : (((⟨#[c]⟩ : Str).length : Nat) : Int) = 1 := rfl
        rw [hl1] at N2
        obtain ⟨r0, r1, r2, r3, r4⟩ := read_post hi0 hlt hr hi2
        rw [hr] at r3 r4
        generalize ln' + (if (⟨#[c]⟩ : Str) = Str.ofString "\n" then 1 else 0) = ln1 at N2 r2 r3 r4
        have hocc := ws_occ c
        cases hw : isWs c with
        | true =>
          rw [hw, Bool.not_true] at hocc
          k_steps
          refine joinA_end ⟨true, pos' + 1, ln1, Str.ofString "", tp2, tl2, tt⟩ (by k_asm) (by k_asm) (fun _ h => h) (by kst_all) ⟨⟨r0, r1, r2, Int.le_trans r3 hi3, Nat.le_trans (Nat.add_le_add_left (Nat.le_succ _) _) hi4, r4.trans hi5, rfl, okTok_ws hw hi7, (gtok_ws hw).symm.trans hi8⟩, ?_⟩
          show (txR text (pos' + 1)).length + 1 < (txR text pos').length + 1
          rw [hr, List.length_cons]; exact Nat.lt_succ_self _
        | false =>
          rw [hw, Bool.not_false] at hocc
          have hqt : ((⟨#[c]⟩ : Str) == Str.ofString "\"") = false := by
            rw [one_is_qt]; simpa using okTok_no hw hi7
          k_steps
          refine Held.put ?_
          (rename Fr _ _ _ _ => oF)
          refine' cut_all (σ := Es) oF (fun y => x.led 76 ⟨y.pos, y.ln, #[], y.tp, ea, y.tl, ep⟩ ++ (it, itO q ts true) :: (q, methodObj (.ref 59) (.ref x.lx)) :: rest)
            (fun y => [(Str.ofString "ch", .str y.e y.te), (Str.ofString "self", .ref x.lx), (Str.ofString "token", .str (Str.ofString "") tt), (Str.ofString "fiter", .ref it)])
            (fun y => EscOk text c (pos' + 1) ln1 y.e y.pos y.ln) ?_ ?_
          · have ho : HoldOff := ⟨⟩
            by_cases hc92 : c = 92
            · have hbs : ((⟨#[c]⟩ : Str) == Str.ofString "\\") = true := by rw [one_is_bs, hc92]; rfl
              k_steps
              refine Held.put ?_
              k_dflt (refine' ctr_use (read_char_ctr w p loose mean mg mb Xt x ⟨pos' + 1, ln1, #[], tp2, ea, tl2, ep⟩ text _) hXt ?k1 ?k2 ?k3 ?k4 ?k5 ?kK ?kp ?kd ?ku ?_; (case k1 => k_asm); (case k2 => k_asm); (case k3 => k_asm); (case k4 => k_asm); (case k5 => k_asm); (case kK => first | exact rfl | assumption); (case kd => ktr_room); (case ku => ktr_units))
              case kp => exact ⟨hOrd, hrd, htl, r0, r1, r2, by dsimp only; omega, hq1 _, hq2 _⟩
              rintro v nw h5 tk5 ⟨tv5, tp5, tl5, rfl, rfl⟩ F5 N5
              simp only [List.cons_append, List.nil_append] at N5
              k_steps
              exact joinA_end ⟨_, _, _, _, _, _⟩ (by k_asm) (by k_asm) (fun _ h => h) (by kst_all) (esc_some hc92 r0 r1 r2)
            · have hbs : ((⟨#[c]⟩ : Str) == Str.ofString "\\") = false := by rw [one_is_bs]; simpa using hc92
              k_steps
              exact joinA_end ⟨_, _, _, _, tp2, tl2⟩ (by k_asm) (by k_asm) (fun _ h => h) (by kst_all) (esc_none hc92 r0 r1 r2)
          (rename Fr _ _ _ _ => oF; clear oF); (rename News _ _ _ _ => oN; clear oN)
          intro y u6 h6 tk6 hy F6 N6
          obtain ⟨e, te, pos6, ln6, tp6, tl6⟩ := y
          obtain ⟨y1, y2, y3, y4, y5, y6, y7, y8⟩ := hy
          dsimp only at y1 y2 y3 y4 y5 y6 y7 y8
          dsimp only [kstB] at F6
          simp only [List.cons_append, List.nil_append] at N6
          k_steps
          refine Held.put ?_
          rename_i t9 _ _ _ F9 N9
          refine wpAny_For ?_
          k_dflt (refine ld F9 rfl ?_)
          refine iter_ci (N9.get (by k_mem)) ?_
          refine for_all (σ := Gs) (fun g => x.led 76 (g.ls ea ep) ++ (it, itO q ts g.live) :: (q, methodObj (.ref 59) (.ref x.lx)) :: rest)
            (fun g => [(Str.ofString "self", .ref x.lx), (Str.ofString "token", .str g.tok g.tt), (Str.ofString "fiter", .ref it)])
            (Gs.Inv2 text (gtok (txR text pos)).1 (gtok (txR text pos)).2 (ln + nls (txR text pos))) (fun g => if g.live then (txR text g.pos).length + 1 else 0)
            (fun g => g.live = false ∧ Gs.Inv2 text (gtok (txR text pos)).1 (gtok (txR text pos)).2 (ln + nls (txR text pos)) g) ⟨true, pos6, ln6, Str.ofString "" ++ e, tp6, tl6, t9⟩ F9 N9 ?hk ?hp ?turn ?next
          case hk => kst_all
          case hp =>
            rw [gtok_no hw, unq_esc hw] at hi8
            have he1 := congrArg Prod.fst hi8
            have he2 := congrArg Prod.snd hi8
            dsimp only at he1 he2
            refine ⟨y3, y4, y5, Int.le_trans y6 (Int.le_trans r3 hi3), ?_, y7.trans (r4.trans hi5), ?_, ?_⟩
            · show (Str.ofString "" ++ e).length + (txR text pos6).length ≤ text.length
              have := esc_len c (txR text (pos' + 1))
              rw [← y1, ← y2] at this
              rw [List.length_cons] at hi4
              rw [len_lst, lst_append, lst_empty, List.nil_append]
              exact Nat.le_trans this (Nat.le_trans (Nat.le_add_left _ _) hi4)
            · show lst (Str.ofString "" ++ e) ++ (unq (txR text pos6)).1 = _
              rw [lst_append, lst_empty, List.nil_append, y1, y2]; exact he1
            · show (unq (txR text pos6)).2 = _
              rw [y2]; exact he2
          case next =>
            clear F9 N9
            intro g u h tk hg F' N'
            obtain ⟨live, pos', ln', tok, tp', tl', tt⟩ := g
            obtain ⟨hlv, hi0, hi1, hi2, hi3, hi4, hi5, hi6⟩ := hg
            dsimp only at hlv hi0 hi1 hi2 hi3 hi4 hi5 hi6
            subst hlv
            obtain ⟨hi6, hi7⟩ := hi6
            dsimp only [kstB] at F'
            simp only [List.cons_append, List.nil_append] at N'
            k_steps
            refine joinA_end ⟨false, pos', ln', tok, tp', tl', tt⟩ (by k_asm) (by k_asm) (fun _ h => h) (by kst_all) ⟨⟨hi0, hi1, hi2, hi3, hi4, hi5, hi6, hi7⟩, ?_⟩
            exact Nat.succ_pos _
          case turn =>
            clear F9 N9
            intro g u h tk hg F' N'
            obtain ⟨live, pos', ln', tok, tp', tl', tt⟩ := g
            obtain ⟨hi0, hi1, hi2, hi3, hi4, hi5, hi6⟩ := hg
            dsimp only at hi0 hi1 hi2 hi3 hi4 hi5 hi6
            cases live with
            | false =>
              obtain ⟨hi6, hi7⟩ := hi6
              refine next_ci_end (N' (it, _) (List.mem_append_right _ (.head _))).1 rfl fun h' hk => ?_
              refine joinA_end ⟨false, pos', ln', tok, tp', tl', tt⟩ (F'.keeps hk) (fun p hp => ⟨hk _ _ (N' p hp).1, (N' p hp).2⟩) (fun _ h => h) (by kst_all) ⟨rfl, hi0, hi1, hi2, hi3, hi4, hi5, hi6, hi7⟩
            | true =>
              obtain ⟨hi6, hi7⟩ := hi6
              refine next_ci (N' (it, _) (List.mem_append_right _ (.head _))).1 (N' (q, _) (List.mem_append_right _ (.tail _ (.head _)))).1 ⟨_, _, _, _, Frag.In.keeps (by k_asm) F'.keep _ _ (by k_dflt k_is)⟩ rfl ?_
              k_dflt (refine call_meth N' (List.mem_append_right _ (.tail _ (.head _))) ?_)
              k_dflt (refine' ctr_code (read_char_ctr w p loose mean mg mb Xt x ⟨pos', ln', #[], tp', ea, tl', ep⟩ text _) hXt ?k1 F' ?k3 N' ?k5 ?kK ?kp ?kd ?ku ?_; (case k1 => k_asm); (case k3 => k_asm); (case k5 => k_asm); (case kK => first | exact rfl | assumption); (case kd => ktr_room); (case ku => ktr_units))
              case kp => exact ⟨hOrd, hrd, htl, hi0, hi1, hi2, by dsimp only; omega, hq1 _, hq2 _⟩
              rintro v nw h2 tk2 ⟨tv, tp2, tl2, rfl, rfl⟩ F2 N2
              refine ⟨_, tv, rfl, (N2 (it, _) (List.mem_append_right _ (.head _))).1, (N2 (q, _) (List.mem_append_right _ (.tail _ (.head _)))).1, ⟨_, _, _, _, Frag.In.keeps (by k_asm) F2.keep _ _ (by k_dflt k_is)⟩, ?_, ?_⟩
              · intro hne tk3
                have hlt : pos' < text.length := by
                  rcases Int.lt_or_eq_of_le hi1 with h | h
                  · exact h
                  · exact absurd (ch_end h).1 hne
                obtain ⟨c, hc, hr⟩ := ch_at hi0 hlt
                dsimp only at N2 ⊢
                rw [hc] at N2 ⊢
                clear N'
                rw [hr] at hi3 hi4 hi5 hi6 hi7
                simp only [List.cons_append, List.nil_append] at N2
                dsimp only [kstB] at F2
                clear F'
                have hl1 : (((⟨#[c]⟩ : Str).length : Nat) : Int) = 1 := rfl
                rw [hl1] at N2
                obtain ⟨r0, r1, r2, r3, r4⟩ := read_post hi0 hlt hr hi2
                rw [hr] at r3 r4
                generalize ln' + (if (⟨#[c]⟩ : Str) = Str.ofString "\n" then 1 else 0) = ln1 at N2 r2 r3 r4
                have hocc := ws_occ c
                rw [List.length_cons] at hi4
                cases hw : isWs c with
                | true =>
                  rw [hw, Bool.not_true] at hocc
                  rw [unq_ws hw] at hi6 hi7
                  k_steps
                  dsimp only [EndA]
                  k_steps
                  refine hret _ _ _ _ ⟨pos' + 1, ln1, tp2, tl2, tt, ?_, r0, r1, hi7, ?_, r2, rfl⟩ (by k_asm) ?_
                  · rw [← hi6, List.append_nil]
                  · rw [← hi7]; exact r4.trans hi5
                  · rename News _ _ _ _ => nX
                    exact fun p hp => nX p (it_drop (l := x.led 76 ⟨pos' + 1, ln1, #[], tp2, ea, tl2, ep⟩) p hp)
                | false =>
                  rw [hw, Bool.not_false] at hocc
                  rw [unq_esc hw] at hi6 hi7
                  k_steps
                  refine Held.put ?_
                  (rename Fr _ _ _ _ => oF)
                  refine' cut_all (σ := Es) oF (fun y => x.led 76 ⟨y.pos, y.ln, #[], y.tp, ea, y.tl, ep⟩ ++ (it, itO q ts true) :: (q, methodObj (.ref 59) (.ref x.lx)) :: rest)
                    (fun y => [(Str.ofString "ch", .str y.e y.te), (Str.ofString "self", .ref x.lx), (Str.ofString "token", .str tok tt), (Str.ofString "fiter", .ref it)])
                    (fun y => EscOk text c (pos' + 1) ln1 y.e y.pos y.ln) ?_ ?_
                  · have ho : HoldOff := ⟨⟩
                    by_cases hc92 : c = 92
                    · have hbs : ((⟨#[c]⟩ : Str) == Str.ofString "\\") = true := by rw [one_is_bs, hc92]; rfl
                      k_steps
                      refine Held.put ?_
                      k_dflt (refine' ctr_use (read_char_ctr w p loose mean mg mb Xt x ⟨pos' + 1, ln1, #[], tp2, ea, tl2, ep⟩ text _) hXt ?k1 ?k2 ?k3 ?k4 ?k5 ?kK ?kp ?kd ?ku ?_; (case k1 => k_asm); (case k2 => k_asm); (case k3 => k_asm); (case k4 => k_asm); (case k5 => k_asm); (case kK => first | exact rfl | assumption); (case kd => ktr_room); (case ku => ktr_units))
                      case kp => exact ⟨hOrd, hrd, htl, r0, r1, r2, by dsimp only; omega, hq1 _, hq2 _⟩
                      rintro v nw h5 tk5 ⟨tv5, tp5, tl5, rfl, rfl⟩ F5 N5
                      simp only [List.cons_append, List.nil_append] at N5
                      k_steps
                      exact joinA_end ⟨_, _, _, _, _, _⟩ (by k_asm) (by k_asm) (fun _ h => h) (by kst_all) (esc_some hc92 r0 r1 r2)
                    · have hbs : ((⟨#[c]⟩ : Str) == Str.ofString "\\") = false := by rw [one_is_bs]; simpa using hc92
                      k_steps
                      exact joinA_end ⟨_, _, _, _, tp2, tl2⟩ (by k_asm) (by k_asm) (fun _ h => h) (by kst_all) (esc_none hc92 r0 r1 r2)
                  (rename Fr _ _ _ _ => oF; clear oF); (rename News _ _ _ _ => oN; clear oN)
                  intro y u6 h6 tk6 hy F6 N6
                  obtain ⟨e, te, pos6, ln6, tp6, tl6⟩ := y
                  obtain ⟨y1, y2, y3, y4, y5, y6, y7, y8⟩ := hy
                  dsimp only at y1 y2 y3 y4 y5 y6 y7 y8
                  dsimp only [kstB] at F6
                  simp only [List.cons_append, List.nil_append] at N6
                  k_steps
                  refine joinA_end ⟨true, pos6, ln6, tok ++ e, tp6, tl6, _⟩ (by k_asm) (by k_asm) (fun _ h => h) (by kst_all) ⟨⟨y3, y4, y5, Int.le_trans y6 (Int.le_trans r3 hi3), ?_, y7.trans (r4.trans hi5), ?_, ?_⟩, ?_⟩
                  · show (tok ++ e).length + (txR text pos6).length ≤ text.length
                    have := esc_len c (txR text (pos' + 1))
                    rw [← y1, ← y2] at this
                    rw [len_lst, lst_append, List.length_append, ← len_lst tok, Nat.add_assoc]
                    exact Nat.le_trans (Nat.add_le_add_left this _) hi4
                  · show lst (tok ++ e) ++ (unq (txR text pos6)).1 = _
                    rw [lst_append, y1, y2, List.append_assoc]; exact hi6
                  · show (unq (txR text pos6)).2 = _
                    rw [y2]; exact hi7
                  · show (txR text pos6).length + 1 < (txR text pos').length + 1
                    rw [hr, y2, List.length_cons]; exact Nat.succ_lt_succ (Nat.lt_succ_of_le (esc_short _ _))
              · intro he h3 tk3 hk1 hk2
                have hlt : pos' = text.length := by
                  rcases Int.lt_or_eq_of_le hi1 with h | h
                  · obtain ⟨c, hc, _⟩ := ch_at hi0 h
                    rw [hc] at he; exact absurd he (one_ne_empty c)
                  · exact h
                have hz : (chAt text pos').length = 0 := by rw [(ch_end hlt).1, ofEmpty]; rfl
                have hz2 : ¬ (chAt text pos' = Str.ofString "\n") := by rw [(ch_end hlt).1]; decide +kernel
                have hz3 : txR text pos' = [] := (ch_end hlt).2
                have N3 := N2
                dsimp only at N3
                rw [hz, if_neg hz2, Int.add_zero] at N3
                have e0 : pos' + ((0 : Nat) : Int) = pos' := Int.add_zero _
                rw [e0] at N3
                have hd1 : ∀ z ∈ x.led 76 ⟨pos', ln', #[], tp2, ea, tl2, ep⟩, z.1 ≠ it := fun z hzm => Nat.ne_of_lt (led_lt hOrd (by omega) z hzm)
                have hd2 : ∀ z ∈ (q, methodObj (.ref 59) (.ref x.lx)) :: rest, z.1 ≠ it := by
                  intro z hzm
                  rcases List.mem_cons.mp hzm with h | h
                  · rw [h]; refine neN ?_; dsimp only; omega
                  · exact hrc z h
                refine joinA_end ⟨false, pos', ln', tok, tp2, tl2, tt⟩ (fr_but F2 N2 (List.mem_append_right _ (.head _)) hk2) (news_but (o' := ciO .none .none true) N3 hd1 hd2 hk1 hk2) (fun _ h => h) (by kst_all) ⟨rfl, hi0, hi1, hi2, hi3, hi4, hi5, ?_⟩
                rw [hz3, unq_nil] at hi6 hi7
                exact ⟨by rw [← hi6]; simp, by rw [← hi7]; exact hz3⟩
      · intro he h3 tk3 hk1 hk2
        have hlt : pos' = text.length := by
          rcases Int.lt_or_eq_of_le hi1 with h | h
          · obtain ⟨c, hc, _⟩ := ch_at hi0 h
            rw [hc] at he; exact absurd he (one_ne_empty c)
          · exact h
        have hz : (chAt text pos').length = 0 := by rw [(ch_end hlt).1, ofEmpty]; rfl
        have hz2 : ¬ (chAt text pos' = Str.ofString "\n") := by rw [(ch_end hlt).1]; decide +kernel
        have hz3 : txR text pos' = [] := (ch_end hlt).2
        have N3 := N2
        dsimp only at N3
        rw [hz, if_neg hz2, Int.add_zero] at N3
        have e0 : pos' + ((0 : Nat) : Int) = pos' := Int.add_zero _
        rw [e0] at N3
        have hd1 : ∀ z ∈ x.led 76 ⟨pos', ln', #[], tp2, ea, tl2, ep⟩, z.1 ≠ it := fun z hzm => Nat.ne_of_lt (led_lt hOrd (by omega) z hzm)
        have hd2 : ∀ z ∈ (q, methodObj (.ref 59) (.ref x.lx)) :: rest, z.1 ≠ it := by
          intro z hzm
          rcases List.mem_cons.mp hzm with h | h
          · rw [h]; refine neN ?_; dsimp only; omega
          · exact hrc z h
        refine joinA_end ⟨false, pos', ln', (Str.ofString ""), tp2, tl2, tt⟩ (fr_but F2 N2 (List.mem_append_right _ (.head _)) hk2) (news_but (o' := ciO .none .none true) N3 hd1 hd2 hk1 hk2) (fun _ h => h) (by kst_all) ⟨rfl, hi0, hi1, hi2, hi3, hi4, hi5, ?_⟩
        rw [hz3, gtok_nil] at hi8
        exact ⟨by rw [← congrArg Prod.fst hi8]; exact lst_empty, by rw [← congrArg Prod.snd hi8]; exact hz3⟩
end Mine
end
section
theorem Mine.forget_Qd3 : True := by
  w_top off
  trivial
open PySem PySem.W PyProof.Rows PySem.Calls PySem.Spec
set_option maxRecDepth 100000
set_option maxHeartbeats 8000000
namespace Mine
/-- what quotedata makes -/
def quot (l : List Nat) : List Nat := dots true (crlf l)
theorem news_keep {h₀ h h' : Heap} {L : Addr} {news : List (Addr × Obj)} (N : News h₀ L h news) (hk : ∀ b o, h.get? b = some o → h'.get? b = some o) : News h₀ L h' news := fun p hp => ⟨hk _ _ (N p hp).1, (N p hp).2⟩
theorem crlf_len : ∀ (n : Nat) (l : List Nat), l.length ≤ n → (crlf l).length ≤ 2 * l.length := by
  intro n
  induction n with
  | zero => intro l h; cases l with | nil => simp [crlf] | cons c r => simp at h
  | succ n ih =>
    intro l h
    match l with
    | [] => simp [crlf]
    | [c] => unfold crlf; split <;> simp
    | c :: d :: r =>
      unfold crlf
      simp only [List.length_cons] at h ⊢
      split
      · have := ih r (by omega); simp only [List.length_cons]; omega
      · split
        · have := ih (d :: r) (by simp only [List.length_cons]; omega); simp only [List.length_cons] at this ⊢; omega
        · have := ih (d :: r) (by simp only [List.length_cons]; omega); simp only [List.length_cons] at this ⊢; omega
section
variable {prog : Program} {w : World} {A : Around} {E : Value → Shared → Prop} {s : Shared} {h₀ : Heap} {L : Addr} {m : Str → Option Value} {news : List (Addr × Obj)}
theorem call_sub2 {P T : Addr} {pv fl : Value} {its : Array Value} {x : Str} {t tr : Tok} {Q : Value → Shared → Prop} (F : Fr h₀ L s.heap m) (N : News h₀ L s.heap news) (hp : h₀.get? P = some (patO pv fl T)) (hT : h₀.get? T = some (codO its)) (he : (its.map Builtin.Re.reRawOf).map (·.toNat) = c2) (hx : x.length ≤ 100000)
    (h : ∀ h' tv k', Fr h₀ L h' m → News h₀ L h' news → Q (.str ⟨(crlf (lst x)).toArray⟩ tv) { s with heap := h', toks := k' }) : wpAny (model prog w) A (call (.builtin "re.Pattern.sub") [.ref P, .str (Str.ofString "\r\n") tr, .str x t]) Q E s := by
  refine call_sub (c := c2) (G := fun a => crlf (x.cps.toList.drop a)) (F.keep _ _ hp) (F.keep _ _ hT) he (fun a ha => ?_) hx (by decide +kernel) (by decide +kernel) fun h' tv k' hk => ?_
  · rw [show lst (Str.ofString "\r\n") = [13, 10] from by decide +kernel]; exact finds2 ha
  · exact h h' tv k' (F.keeps hk) (news_keep N hk)
theorem call_sub1 {P T : Addr} {pv fl : Value} {its : Array Value} {x : Str} {t tr : Tok} {Q : Value → Shared → Prop} (F : Fr h₀ L s.heap m) (N : News h₀ L s.heap news) (hp : h₀.get? P = some (patO pv fl T)) (hT : h₀.get? T = some (codO its)) (he : (its.map Builtin.Re.reRawOf).map (·.toNat) = c1) (hx : x.length ≤ 100000)
    (h : ∀ h' tv k', Fr h₀ L h' m → News h₀ L h' news → Q (.str ⟨(dots true (lst x)).toArray⟩ tv) { s with heap := h', toks := k' }) : wpAny (model prog w) A (call (.builtin "re.Pattern.sub") [.ref P, .str (Str.ofString "..") tr, .str x t]) Q E s := by
  refine call_sub (c := c1) (G := fun a => dots (bol x.cps a) (x.cps.toList.drop a)) (F.keep _ _ hp) (F.keep _ _ hT) he (fun a ha => ?_) hx (by decide +kernel) (by decide +kernel) fun h' tv k' hk => ?_
  · rw [show lst (Str.ofString "..") = [46, 46] from by decide +kernel]; exact finds1 ha hx
  · exact h h' tv k' (F.keeps hk) (news_keep N hk)
end
local macro_rules | `(tactic| k_all) => `(tactic| assumption)
local macro_rules | `(tactic| k_room) => `(tactic| ktr_room)
local macro_rules | `(tactic| k_units) => `(tactic| ktr_units)
local macro_rules | `(tactic| walk_at "getMethod ref") => `(tactic| ((with_reducible show wpAny _ _ (getMethod _ (Str.ofString "sub") _) _ _ _); (rename Fr _ _ _ _ => fX); k_dflt (refine getMethod_re (Frag.In.keeps (by k_asm) fX.keep _ _ (by k_dflt k_is)) ?_)))
local macro_rules | `(tactic| walk_at "call builtin:re.Pattern.sub") => `(tactic| (refine Held.out ?_))
theorem quotedata_ctr (w : World) (p : Program) (loose : List Str) (mean : ExcName → Option Value) (mg mb : Str → Option Value) (Xt : Heap → Prop) (news : List (Addr × Obj)) (a : Str) (t1 : Tok) :
   Ctr (PySem.Challenge.rw_pe0114_03).row.prog w (hd.heap_39 w.params) p loose mean mg mb Xt 97 2 news (a.length ≤ 1000) [.str a t1] (fun v nw => (∃ t, v = .str ⟨(quot (lst a)).toArray⟩ t) ∧ nw = news) := by
  k_fill
  dsimp only [Ctr]
  intros
  rename_i hXt _ _ _ _ _ _ hpre _ _ hret
  k_dflt cell_enter
  k_steps
  refine Held.put ?_
  (rename Fr _ _ _ _ => fX); (rename News _ _ _ _ => nX); (rename Frag.In _ _ => xX)
  k_dflt (refine call_sub2 fX nX (xX _ _ (by k_dflt k_is)) (xX _ _ (by k_dflt k_is)) (by decide +kernel) (Nat.le_trans hpre (by decide)) ?_)
  intro h1 tv1 k1 F1 N1
  clear fX nX
  k_steps
  refine Held.put ?_
  k_dflt (refine call_sub1 F1 N1 (xX _ _ (by k_dflt k_is)) (xX _ _ (by k_dflt k_is)) (by decide +kernel) ?_ ?_)
  · rw [len_lst, lst_mk]
    have := crlf_len _ _ (Nat.le_refl (lst a).length)
    rw [← len_lst] at this
    omega
  intro h2 tv2 k2 F2 N2
  rw [lst_mk]
  clear F1 N1
  k_steps
  exact hret _ _ _ _ ⟨⟨_, rfl⟩, rfl⟩ (by k_asm) (by k_asm)
end Mine
end
section
theorem Mine.forget_Wd3 : True := by
  w_top off
  trivial
open PySem PySem.W PyProof.Rows PySem.Calls PySem.Spec
set_option maxRecDepth 100000
set_option maxHeartbeats 8000000
namespace Mine
theorem abs_ite (x : Int) : (if x < 0 then -x else x) = (x.natAbs : Int) := by split <;> omega
abbrev tupO (vs : List Value) : Obj := { cls := .type "tuple", data := .seq vs.toArray }
theorem max3_N {prog : Program} {w : World} {A : Around} {E : Value → Shared → Prop} {s : Shared} {h₀ : Heap} {L : Addr} {m : Str → Option Value} {news : List (Addr × Obj)} {a b c : Int} {t u x : Tok} {Q : Value → Shared → Prop} (hh : A.handled = none) (F : Fr h₀ L s.heap m) (N : News h₀ L s.heap news)
    (h : ∀ k t' h' tk, k = max (max a b) c → Fr h₀ L h' m → News h₀ L h' news → Q (.int k t') { s with heap := h', toks := tk }) : wpAny (model prog w) A (call (.builtin "max") [.int a t, .int b u, .int c x]) Q E s := by
  refine max_three_ints hh fun h' tk hk => ?_
  have F' := F.keeps hk
  have N' : News h₀ L h' news := fun p hp => ⟨hk _ _ (N p hp).1, (N p hp).2⟩
  split <;> split <;> exact h _ _ h' tk (by omega) F' N'
local macro_rules | `(tactic| walk_at "call builtin:max") => `(tactic| ((with_reducible show wpAny _ _ (call _ [Value.int _ _, Value.int _ _, Value.int _ _]) _ _ _); (rename News _ _ _ _ => nX); (rename Fr _ _ _ _ => fX); refine max3_N rfl fX nX ?_; intro k' t' h' tk' hk' F' N'))
theorem steps_ctr (w : World) (p : Program) (loose : List Str) (mean : ExcName → Option Value) (mg mb : Str → Option Value) (Xt : Heap → Prop) (news : List (Addr × Obj)) (P1 P2 : Addr) (a b c d : Int) (ta tb tc td : Tok) :
   Ctr (PySem.Challenge.rw_pe0114_03).row.prog w (hd.heap_39 w.params) p loose mean mg mb Xt 146 2 news ((P1, tupO [.int a ta, .int b tb]) ∈ news ∧ (P2, tupO [.int c tc, .int d td]) ∈ news ∧ 0 ≤ a ∧ a ≤ 100 ∧ 0 ≤ b ∧ b ≤ 100 ∧ 0 ≤ c ∧ c ≤ 100 ∧ 0 ≤ d ∧ d ≤ 100) [.ref P1, .ref P2] (fun v nw => (∃ t, v = .int (max (max ((a - c).natAbs : Int) ((b - d).natAbs : Int)) (((a - c) + (b - d)).natAbs : Int)) t) ∧ nw = news) := by
  k_fill
  dsimp only [Ctr]
  intros; rename_i hpre _ _ hret
  obtain ⟨hm1, hm2, ha0, ha1, hb0, hb1, hc0, hc1, hd0, hd1⟩ := hpre
  k_dflt cell_enter
  k_steps
  rename _ = max _ _ => hk9
  rw [abs_ite, abs_ite, abs_ite] at hk9
  exact hret _ _ _ _ ⟨ret_int hk9, rfl⟩ (by k_asm) (by k_asm)
end Mine
end
section
theorem Mine.forget_We3 : True := by
  w_top off
  trivial
open PySem PySem.W PyProof.Rows PySem.Calls PySem.Spec
set_option maxRecDepth 100000
set_option maxHeartbeats 8000000
namespace Mine
/-- dots, backslashes, a tail -/
def wordL (a b : Int) (tl : List Nat) : List Nat := List.replicate a.toNat 46 ++ (List.replicate b.toNat 92 ++ tl)
theorem lst_mul {x : Str} {c : Nat} (e : x = ⟨#[c]⟩) (n : Int) : lst (Txt.mul x n) = List.replicate n.toNat c := by subst e; exact mul_one_list c n
theorem word_eq (a b : Int) (tl : Str) : Txt.mul (Str.ofString ".") a ++ Txt.mul (Str.ofString "\\") b ++ tl = ⟨(wordL a b (lst tl)).toArray⟩ := by
  refine str_ext ?_
  rw [lst_append, lst_append, lst_mul (c := 46) (by decide +kernel), lst_mul (c := 92) (by decide +kernel), lst_mk, wordL, List.append_assoc]
theorem word_ctr (w : World) (p : Program) (loose : List Str) (mean : ExcName → Option Value) (mg mb : Str → Option Value) (Xt : Heap → Prop) (news : List (Addr × Obj)) (P1 : Addr) (a b : Int) (ta tb : Tok) (tl : Str) (tt : Tok) :
   Ctr (PySem.Challenge.rw_pe0114_03).row.prog w (hd.heap_39 w.params) p loose mean mg mb Xt 139 1 news ((P1, tupO [.int a ta, .int b tb]) ∈ news ∧ 0 ≤ a ∧ a ≤ 100 ∧ 0 ≤ b ∧ b ≤ 100 ∧ tl.length ≤ 100) [.ref P1, .str tl tt] (fun v nw => (∃ t, v = .str ⟨(wordL a b (lst tl)).toArray⟩ t) ∧ nw = news) := by
  k_fill
  dsimp only [Ctr]
  intros; rename_i hpre _ _ hret
  obtain ⟨hm1, ha0, ha1, hb0, hb1, hl⟩ := hpre
  k_dflt cell_enter
  k_steps
  exact hret _ _ _ _ ⟨ret_str (word_eq a b tl), rfl⟩ (by k_asm) (by k_asm)
end Mine
end
section
theorem Mine.forget_Pl3 : True := by
  w_top off
  trivial
open PySem PySem.W PyProof.Rows PySem.Calls PySem.Spec
set_option maxRecDepth 100000
set_option maxHeartbeats 2000000
namespace Mine
/-- a list of pairs -/
def Tups (tl : List (Addr × Obj)) (vs : List Value) (qs : List (Int × Int)) : Prop := vs.length = qs.length ∧ ∀ (i : Nat) (v : Value) (q : Int × Int), vs[i]? = some v → qs[i]? = some q → ∃ a t u, v = Value.ref a ∧ (a, tupO [.int q.1 t, .int q.2 u]) ∈ tl
def placeAt (z : Int) (ds : List Int) (k : Nat) : Int × Int := (1 + z % 3 + (ds.take k).sum, z / 3 % 8 / 2 ^ ((k : Int) - (ds.take k).sum).toNat)
def placesOf (z : Int) (ds : List Int) (n : Nat) : List (Int × Int) := (List.range n).map (placeAt z ds)
def PlacesRet (z : Int) (ds : List Int) (dL : Addr) (vs : List Value) (ep : Nat) (news : List (Addr × Obj)) (v : Value) (nw : List (Addr × Obj)) : Prop :=
  ∃ (D : Addr) (us : List Value) (e9 : Nat) (tl : List (Addr × Obj)), v = .ref D ∧ Tups tl us (placesOf z ds (ds.length + 1)) ∧ nw = (D, listOf us.toArray e9) :: (dL, listOf vs.toArray ep) :: (tl ++ news) ∧ (∀ p ∈ tl ++ news, p.1 ≠ D) ∧ @LT.lt Nat _ dL D ∧ ∀ p ∈ tl, ∃ xs n, p.2.data = .seq xs n
theorem tups_snoc {tl : List (Addr × Obj)} {us : List Value} {z : Int} {ds : List Int} {k : Nat} {T : Addr} {a b : Int} {t u : Tok} (h : Tups tl us (placesOf z ds k)) (ha : a = (placeAt z ds k).1) (hb : b = (placeAt z ds k).2) :
    Tups ((T, tupO [.int a t, .int b u]) :: tl) (us ++ [.ref T]) (placesOf z ds (k + 1)) := by
  obtain ⟨h1, h2⟩ := h
  have hl : (placesOf z ds k).length = k := by simp [placesOf]
  have e : placesOf z ds (k + 1) = placesOf z ds k ++ [placeAt z ds k] := by simp [placesOf, List.range_succ]
  rw [e]
  refine ⟨by simp [h1], fun i v q hv hq => ?_⟩
  rcases Nat.lt_or_ge i us.length with hi | hi
  · rw [List.getElem?_append_left hi] at hv
    rw [List.getElem?_append_left (by rw [← h1]; exact hi)] at hq
    obtain ⟨a', t', u', e1, e2⟩ := h2 i v q hv hq
    exact ⟨a', t', u', e1, .tail _ e2⟩
  · rw [List.getElem?_append_right hi] at hv
    rw [List.getElem?_append_right (by rw [← h1]; exact hi), ← h1] at hq
    have hi0 : i - us.length = 0 := by
      rcases Nat.eq_zero_or_pos (i - us.length) with h | h
      · exact h
      · rw [List.getElem?_eq_none (by simp; (first | lia | omega))] at hv; cases hv
    rw [hi0] at hv hq
    simp at hv hq
    subst hv hq
    exact ⟨T, t, u, rfl, by rw [← ha, ← hb]; exact .head _⟩
theorem pl_sub {T Sl I D dL : Addr} {oT oS it oD od : Obj} {tl news : List (Addr × Obj)} : ∀ p ∈ (I, it) :: (D, oD) :: (dL, od) :: (((T, oT) :: tl) ++ news), p ∈ (T, oT) :: (Sl, oS) :: (I, it) :: (D, oD) :: (dL, od) :: (tl ++ news) := by
  intro p hp
  simp only [List.mem_cons, List.cons_append, List.mem_append] at hp ⊢
  rcases hp with h | h | h | h | h | h <;> simp [h]
theorem take_sum {ds : List Int} (h : ∀ d ∈ ds, 0 ≤ d ∧ d ≤ 1) (k : Nat) : 0 ≤ (ds.take k).sum ∧ (ds.take k).sum ≤ k := by
  induction ds generalizing k with
  | nil => simp
  | cons d ds ih =>
    cases k with
    | zero => simp
    | succ k =>
      have h1 := h d (.head _)
      have h2 := ih (fun x hx => h x (.tail _ hx)) k
      rw [List.take_succ_cons, List.sum_cons]
      push_cast
      (first | lia | omega)
theorem sumK2 {prog : Program} {w : World} {A : Around} {E : Value → Shared → Prop} {s : Shared} {h₀ : Heap} {L : Addr} {m : Str → Option Value} {news : List (Addr × Obj)} {l : Addr} {vs : List Value} {ns : List Int} {S : Int} {Q : Value → Shared → Prop} (hS : ns.sum = S) (hh : A.handled = none) (F : Fr h₀ L s.heap m) (N : News h₀ L s.heap news) (hl : s.heap.IsList l vs.toArray) (hi : IntsAre vs ns)
    (h : ∀ h' tk t', Fr h₀ L h' m → News h₀ L h' news → Q (.int S t') { s with heap := h', toks := tk }) :
    wpAny (model prog w) A (call (.builtin "sum") [.ref l]) Q E s := by subst hS; exact sumK hh F N hl hi h
theorem pow_le_k {n : Nat} (h : n ≤ 9) : (2 : Int) ^ n ≤ 1000 := by
  have : n = 0 ∨ n = 1 ∨ n = 2 ∨ n = 3 ∨ n = 4 ∨ n = 5 ∨ n = 6 ∨ n = 7 ∨ n = 8 ∨ n = 9 := by (first | lia | omega)
  rcases this with h | h | h | h | h | h | h | h | h | h <;> subst h <;> decide
theorem ex_eq {α : Type} (a : α) : ∃ v, a = v := ⟨a, rfl⟩
local macro_rules | `(tactic| k_all) => `(tactic| first | assumption | exact allLt_ne (by assumption) (by (first | lia | omega)) | exact allLt_ne (And.right (by assumption)) (by (first | lia | omega)) | exact allLt_ne (And.right (And.right (by assumption))) (by (first | lia | omega)) | exact allLt_ne (And.right (And.right (And.right (by assumption)))) (by (first | lia | omega)) | exact allLt_ne (And.right (And.right (And.right (And.right (by assumption))))) (by (first | lia | omega)))
local macro_rules | `(tactic| walk_at "pyIter ref") => `(tactic| (refine Held.out ?_))
local macro_rules | `(tactic| walk_at "call builtin:sum") => `(tactic| (refine Held.out ?_))
local macro_rules | `(tactic| walk_at "binaryOp Pow int int") => `(tactic| (refine Held.out ?_))
local macro_rules | `(tactic| walk_at "binaryOp FloorDiv int int") => `(tactic| ((fail_if_success (rename HoldOff => hx)); refine Held.out ?_))
local macro_rules | `(tactic| walk_at "binaryOp Mod int int") => `(tactic| ((fail_if_success (rename HoldOff => hx)); refine Held.out ?_))
theorem modN {prog : Program} {w : World} {A : Around} {E : Value → Shared → Prop} {s : Shared} {a b V : Int} {t u : Tok} {Q : Value → Shared → Prop} (hb : 0 < b) (hV : a % b = V) (h : ∀ t', Q (.int V t') { s with toks := s.toks + 1 }) (hb2 : b ≤ 1000) :
    wpAny (model prog w) A (binaryOp .Mod (.int a t) (.int b u)) Q E s := by
  subst hV
  refine mod_int' (by (first | lia | omega)) ?_ 
  rw [Int.fmod_eq_emod_of_nonneg _ (by (first | lia | omega))]; exact h _
local macro_rules | `(tactic| walk_at "call builtin:list.append") => `(tactic| ((fail_if_success (rename HoldOff => hx)); refine Held.out ?_))
theorem pow2V {prog : Program} {w : World} {A : Around} {E : Value → Shared → Prop} {s : Shared} {n : Int} {t u : Tok} {Q : Value → Shared → Prop} (hn : 0 ≤ n) (hn2 : n ≤ 9) (h : ∀ V t', V = (2 : Int) ^ n.toNat → 0 < V → V ≤ 1000 → Q (.int V t') { s with toks := s.toks + 1 }) :
    wpAny (model prog w) A (binaryOp .Pow (.int 2 t) (.int n u)) Q E s := pow_int_small hn (by (first | lia | omega)) (by decide) (h _ _ rfl (Int.pow_pos (by decide)) (pow_le_k (by (first | lia | omega))))
theorem fdivN {prog : Program} {w : World} {A : Around} {E : Value → Shared → Prop} {s : Shared} {a b V : Int} {t u : Tok} {Q : Value → Shared → Prop} (hb : 0 < b) (hb2 : b ≤ 1000) (hV : a / b = V) (h : ∀ t', Q (.int V t') { s with toks := s.toks + 1 }) :
    wpAny (model prog w) A (binaryOp .FloorDiv (.int a t) (.int b u)) Q E s := by
  subst hV
  refine floordiv_int (by (first | lia | omega)) ?_ (Or.inl (PyProof.noPylong_small (by (first | lia | omega))))
  rw [Int.fdiv_eq_ediv_of_nonneg _ (by (first | lia | omega))]; exact h _
theorem places_ctr (w : World) (p : Program) (loose : List Str) (mean : ExcName → Option Value) (mg mb : Str → Option Value) (Xt : Heap → Prop) (news : List (Addr × Obj)) (dL : Addr) (vs : List Value) (ds : List Int) (ep : Nat) (z : Int) (tz : Tok) :
   Ctr (PySem.Challenge.rw_pe0114_03).row.prog w (hd.heap_39 w.params) p loose mean mg mb Xt 132 1 ((dL, listOf vs.toArray ep) :: news) (0 ≤ z ∧ z < 72 ∧ IntsAre vs ds ∧ ds.length ≤ 8 ∧ (∀ d ∈ ds, 0 ≤ d ∧ d ≤ 1)) [.int z tz, .ref dL] (PlacesRet z ds dL vs ep news) := by
  k_fill
  dsimp only [Ctr]
  intros; rename_i hpre _ _ hret
  obtain ⟨hz0, hz1, hI, hl, hds⟩ := hpre
  k_dflt cell_enter
  k_steps
  refine Held.put ?_
  rename_i D _ hlt _ _ _ _ _ _ _ _ _ _ _ _
  refine range_grow (σ := List Value × Nat × List (Addr × Obj)) (n := ds.length + 1) (fun c => (D, listOf c.1.toArray c.2.1) :: (dL, listOf vs.toArray ep) :: (c.2.2 ++ news))
    (fun c => [(Str.ofString "places", .ref D), (Str.ofString "z", .int z tz), (Str.ofString "deeds", .ref dL)])
    (fun k c => Tups c.2.2 c.1 (placesOf z ds k) ∧ (∀ p ∈ c.2.2 ++ news, p.1 ≠ D) ∧ ∀ p ∈ c.2.2, ∃ xs n, p.2.data = .seq xs n) ([], 0, []) rfl (by assumption) (small_one (by (first | lia | omega)) (by (first | lia | omega)) (by (first | lia | omega)) (by (first | lia | omega))) ?hn (by k_asm) (by k_asm) (by kst_all) ?hp ?turn ?done
  case hn => exact rangeSize_nat _ _
  case hp => exact ⟨⟨rfl, fun i v q h => by simp at h⟩, fun p hp => Nat.ne_of_lt (allLt_mem (And.right hlt) hp), fun p hp => absurd hp (List.not_mem_nil)⟩
  case turn =>
    (rename Fr _ _ _ _ => oF; clear oF); (rename Fr _ _ _ _ => oF; clear oF); (rename News _ _ _ _ => oN; clear oN); (rename News _ _ _ _ => oN; clear oN)
    intro c k tj u h tk I it hk hoff hP F' N'
    obtain ⟨us, e9, tl⟩ := c
    dsimp only [kstB] at F' hP N' hoff
    obtain ⟨hT, hD, hQ⟩ := hP
    have hul : us.length = k := by have := hT.1; simpa [placesOf] using this
    have hus : us.toArray.size ≤ 10 := by rw [List.size_toArray, hul]; (first | lia | omega)
    have hDI : @Ne Nat D I := hoff _ (.head _)
    have hdD : @LT.lt Nat _ dL D := hlt.1
    k_steps
    refine Held.put ?_
    rename_i hI2 _ _ hl2
    (rename Fr _ _ _ _ => fX); (rename News _ _ _ _ => nX)
    have e0 : (0 + (k : Int)).toNat = k := by (first | lia | omega)
    obtain ⟨hs0, hs1⟩ := take_sum hds k
    obtain ⟨S, hS⟩ := ex_eq (List.take k ds).sum
    rw [hS] at hs0 hs1
    k_dflt (refine sumK2 (S := S) (by rw [e0]; exact hS) rfl fX nX (nX.isList (by k_mem)) hI2 ?_)
    intro h5 tk5 t5 F5 N5
    clear fX nX hI2
    k_steps
    refine Held.put ?_
    refine modN (V := z % 3) (by decide) rfl ?_ (by decide)
    intro t0
    k_steps
    refine Held.put ?_
    refine fdivN (V := z / 3) (by decide) (by decide) rfl ?_
    intro t6
    k_steps
    refine Held.put ?_
    refine modN (V := z / 3 % 8) (by decide) rfl ?_ (by decide)
    intro t61
    k_steps
    refine Held.put ?_
    refine pow2V (by (first | lia | omega)) (by (first | lia | omega)) ?_
    intro V t7 hV hV0 hV1
    k_steps
    refine Held.put ?_
    refine fdivN (V := z / 3 % 8 / V) (by (first | lia | omega)) (by (first | lia | omega)) (by (first | lia | omega)) ?_
    intro t8
    k_steps
    refine Held.put ?_
    rename_i T _ _ _ l6
    have hTD : @LT.lt Nat _ D T := l6.2.2.1
    have hTI : @LT.lt Nat _ I T := l6.2.1
    have ho : HoldOff := ⟨⟩
    k_steps
    dsimp only [EndG]
    (rename News _ _ _ _ => N9); (rename Fr _ _ _ _ => F9)
    simp only [List.push_toArray] at N9
    refine' joinA_end (us ++ [.ref T], e9 + 1, (T, tupO [.int (1 + z % 3 + S) _, .int (z / 3 % 8 / V) t8]) :: tl) F9 N9 pl_sub (by kst_all) ⟨?off, tups_snoc hT ?t1 ?t2, ?ne, fun p hp => (List.mem_cons.mp hp).elim (fun h => by rw [h]; exact ⟨_, _, rfl⟩) (hQ p)⟩
    case off =>
      intro p hp
      simp only [List.cons_append, List.mem_cons] at hp
      rcases hp with h | h | h | h
      · rw [h]; exact hDI
      · exact hoff p (by rw [h]; exact .tail _ (.head _))
      · rw [h]; exact Ne.symm (Nat.ne_of_lt hTI)
      · exact hoff p (.tail _ (.tail _ h))
    case t1 => rw [← hS]; rfl
    case t2 => rw [hV, ← hS]; show _ = z / 3 % 8 / _; rw [Int.zero_add]
    case ne =>
      intro p hp
      simp only [List.cons_append, List.mem_cons] at hp
      rcases hp with h | h
      · rw [h]; exact Ne.symm (Nat.ne_of_lt hTD)
      · exact hD p h
  case done =>
    (rename Fr _ _ _ _ => oF; clear oF); (rename Fr _ _ _ _ => oF; clear oF); (rename News _ _ _ _ => oN; clear oN); (rename News _ _ _ _ => oN; clear oN)
    intro c u h tk hP F' N'
    obtain ⟨us, e9, tl⟩ := c
    dsimp only [kstB] at F' hP N'
    obtain ⟨hT, hD, hQ⟩ := hP
    k_steps
    exact hret _ _ _ _ ⟨D, us, e9, tl, rfl, hT, rfl, hD, hlt.1, hQ⟩ (by k_asm) (by k_asm)
end Mine
end
section
theorem Mine.forget_Pm : True := by
  w_top off
  trivial
open PySem PySem.W PyProof.Rows PySem.Calls PySem.Spec
set_option maxRecDepth 100000
namespace Mine
/-- plain signs: no row end -/
def plainL (l : List Nat) : Prop := ∀ x ∈ l, x ≠ 10 ∧ x ≠ 13
theorem crlf_id : ∀ {l : List Nat}, plainL l → crlf l = l
  | [], _ => by simp [crlf]
  | [c], h => by
    have := h c (.head _)
    simp [crlf, this.1, this.2]
  | c :: d :: r, h => by
    have h1 := h c (.head _)
    have ih := crlf_id (l := d :: r) fun x hx => h x (.tail _ hx)
    rw [crlf, if_neg (by (first | lia | omega)), if_neg (by (first | lia | omega)), ih]
theorem dots_false : ∀ {l : List Nat}, plainL l → dots false l = l
  | [], _ => by simp [dots]
  | c :: r, h => by
    have h1 := h c (.head _)
    have ih := dots_false (l := r) fun x hx => h x (.tail _ hx)
    have hc : (c == 10) = false := by simpa using h1.1
    rw [dots, if_neg (by simp), hc, ih]
    rfl
theorem quot_dot {r : List Nat} (h : plainL (46 :: r)) : quot (46 :: r) = 46 :: 46 :: r := by
  unfold quot
  rw [crlf_id h, dots, if_pos ⟨rfl, rfl⟩, show ((46 : Nat) == 10) = false from rfl, dots_false fun x hx => h x (.tail _ hx)]
  rfl
theorem wordL_plain {a b : Int} {t : Nat} (h1 : t ≠ 10) (h2 : t ≠ 13) : plainL (wordL a b [t]) := by
  intro x hx
  unfold wordL at hx
  rcases List.mem_append.mp hx with h | h
  · have := List.eq_of_mem_replicate h; (first | lia | omega)
  rcases List.mem_append.mp h with h | h
  · have := List.eq_of_mem_replicate h; (first | lia | omega)
  · have := List.mem_singleton.mp h; (first | lia | omega)
theorem wordL_cons {a b : Int} {tl : List Nat} (h : 1 ≤ a) : wordL a b tl = 46 :: wordL (a - 1) b tl := by
  unfold wordL
  have e : a.toNat = (a - 1).toNat + 1 := by (first | lia | omega)
  rw [e, List.replicate_succ]; rfl
theorem quot_word {a b : Int} {t : Nat} (ha : 1 ≤ a) (h1 : t ≠ 10) (h2 : t ≠ 13) : quot (wordL a b [t]) = wordL (a + 1) b [t] := by
  have hp := wordL_plain (a := a) (b := b) h1 h2
  rw [wordL_cons ha] at hp ⊢
  rw [quot_dot hp, wordL_cons (by (first | lia | omega) : (1 : Int) ≤ a + 1), show a + 1 - 1 = a by (first | lia | omega), wordL_cons ha]
theorem unq_plain {c : Nat} {r : List Nat} (h : isWs c = false) (h2 : c ≠ 92) : unq (c :: r) = (c :: (unq r).1, (unq r).2) := by
  rw [unq.eq_def]; simp [h, h2]
theorem unq_two {d : Nat} {r : List Nat} : unq (92 :: d :: r) = (d :: (unq r).1, (unq r).2) := by
  rw [unq.eq_def]; simp [isWs]
theorem unq_bs {t : Nat} (h : isWs t = false) (h2 : t ≠ 92) : ∀ (n b : Nat), b ≤ n → unq (List.replicate b 92 ++ [t]) = (List.replicate (b / 2) 92 ++ [t], []) := by
  intro n
  induction n with
  | zero =>
    intro b hb
    have : b = 0 := by (first | lia | omega)
    subst this
    show unq [t] = _
    rw [unq_plain h h2, unq_nil]; rfl
  | succ n ih =>
    intro b hb
    match b with
    | 0 => show unq [t] = _; rw [unq_plain h h2, unq_nil]; rfl
    | 1 => show unq [92, t] = _; rw [unq_two, unq_nil]; rfl
    | b + 2 =>
      show unq (92 :: 92 :: (List.replicate b 92 ++ [t])) = _
      rw [unq_two, ih b (by (first | lia | omega))]
      have : (b + 2) / 2 = b / 2 + 1 := by (first | lia | omega)
      rw [this, List.replicate_succ]; rfl
theorem unq_dots {r : List Nat} : ∀ a : Nat, unq (List.replicate a 46 ++ r) = (List.replicate a 46 ++ (unq r).1, (unq r).2)
  | 0 => by simp
  | a + 1 => by
    rw [List.replicate_succ, List.cons_append, unq_plain (by decide) (by decide), unq_dots a]; rfl
theorem gtok_word {a b : Int} {t : Nat} (ha : 1 ≤ a) (hb : 0 ≤ b) (h : isWs t = false) (h2 : t ≠ 92) : (gtok (wordL a b [t])).1 = wordL a (b / 2) [t] := by
  have e : gtok (wordL a b [t]) = unq (wordL a b [t]) := by rw [wordL_cons ha, gtok_no (by decide)]
  rw [e]
  unfold wordL
  rw [unq_dots, unq_bs h h2 _ _ (Nat.le_refl _)]
  have : b.toNat / 2 = (b / 2).toNat := by (first | lia | omega)
  rw [this]
theorem take_succ_sum {ds : List Int} {k : Nat} {d : Int} (h : ds[k]? = some d) : (ds.take (k + 1)).sum = (ds.take k).sum + d := by
  rw [List.take_add_one, h]; simp
theorem place_succ1 {z : Int} {ds : List Int} {k : Nat} (h : ds[k]? = some 1) : placeAt z ds (k + 1) = ((placeAt z ds k).1 + 1, (placeAt z ds k).2) := by
  unfold placeAt
  rw [take_succ_sum h]
  have e : ((k + 1 : Nat) : Int) - ((ds.take k).sum + 1) = (k : Int) - (ds.take k).sum := by (first | lia | omega)
  rw [e]
  congr 1
  (first | lia | omega)
theorem place_succ0 {z : Int} {ds : List Int} {k : Nat} (h : ds[k]? = some 0) (hd : ∀ d ∈ ds, 0 ≤ d ∧ d ≤ 1) : placeAt z ds (k + 1) = ((placeAt z ds k).1, (placeAt z ds k).2 / 2) := by
  unfold placeAt
  obtain ⟨_, h1⟩ := take_sum hd k
  rw [take_succ_sum h]
  have e : (((k + 1 : Nat) : Int) - ((ds.take k).sum + 0)).toNat = ((k : Int) - (ds.take k).sum).toNat + 1 := by (first | lia | omega)
  rw [e, Int.pow_succ]
  congr 1
  · (first | lia | omega)
  · exact (Int.ediv_ediv_of_nonneg (Int.le_of_lt (Int.pow_pos (by decide)))).symm
theorem place_lo {z : Int} {ds : List Int} (k : Nat) (hd : ∀ d ∈ ds, 0 ≤ d ∧ d ≤ 1) : 1 ≤ (placeAt z ds k).1 ∧ 0 ≤ (placeAt z ds k).2 := by
  obtain ⟨s0, s1⟩ := take_sum hd k
  unfold placeAt
  exact ⟨by dsimp only; (first | lia | omega), Int.ediv_nonneg (by (first | lia | omega)) (Int.le_of_lt (Int.pow_pos (by decide)))⟩
end Mine
end
section
theorem Mine.forget_LevW : True := by
  w_top off
  trivial
open PySem PySem.W PyProof.Rows PySem.Calls PySem.Spec
namespace Mine
theorem cost_db : cost 46 92 = 2 := by decide +kernel
theorem cost_bd : cost 92 46 = 2 := by rw [cost_comm, cost_db]
theorem Ed.len {x y : List Nat} {n : Nat} (h : Ed x y n) : 2 * (y.length : Int) - 2 * x.length ≤ n := h.symm.ge
def two46 (l : List Nat) : Prop := ∀ c ∈ l, c = 46 ∨ c = 92
theorem Ed.cnt {e : Nat} (he : e = 46 ∨ e = 92) {x y : List Nat} {n : Nat} (h : Ed x y n) (hx : two46 x) (hy : two46 y) : 2 * (x.count e : Int) - 2 * y.count e ≤ n := by
  induction h with
  | nil => simp
  | @del c x y n _ ih =>
    have := ih (fun z hz => hx z (.tail _ hz)) hy
    rw [List.count_cons]
    split <;> (push_cast; (first | lia | omega))
  | @ins d x y n _ ih =>
    have := ih hx (fun z hz => hy z (.tail _ hz))
    rw [List.count_cons]
    split <;> (push_cast; (first | lia | omega))
  | @sub c d x y n _ ih =>
    have := ih (fun z hz => hx z (.tail _ hz)) (fun z hz => hy z (.tail _ hz))
    have h1 := hx c (.head _)
    have h2 := hy d (.head _)
    rw [List.count_cons, List.count_cons]
    rcases h1 with rfl | rfl <;> rcases h2 with rfl | rfl <;> rcases he with rfl | rfl <;> simp [cost_self, cost_db, cost_bd] <;> (first | lia | omega)
theorem Ed.dots (a b : Nat) : Ed (List.replicate a 46) (List.replicate b 92) (2 * max a b) := by
  induction a generalizing b with
  | zero =>
    refine (Ed.nl _).to ?_
    rw [List.length_replicate]; (first | lia | omega)
  | succ a ih =>
    cases b with
    | zero => refine (Ed.nr _).to ?_; rw [List.length_replicate]; (first | lia | omega)
    | succ b =>
      rw [List.replicate_succ, List.replicate_succ]
      refine (Ed.sub (ih b)).to ?_
      rw [cost_db]; (first | lia | omega)
abbrev db (a b : Nat) : List Nat := List.replicate a 46 ++ List.replicate b 92
theorem db_two (a b : Nat) : two46 (db a b) := by
  intro c hc
  rcases List.mem_append.mp hc with h | h
  · exact .inl (List.eq_of_mem_replicate h)
  · exact .inr (List.eq_of_mem_replicate h)
theorem db_eq (a x y b : Nat) : List.replicate a 46 ++ (List.replicate x 46 ++ List.replicate y 92) ++ List.replicate b 92 = db (a + x) (y + b) := by
  unfold db
  rw [← List.replicate_append_replicate (n := a), ← List.replicate_append_replicate (n := y)]
  simp only [List.append_assoc]
theorem lev_db_same (a b x y : Nat) : lev (db (a + x) (y + b)) (db a b) ≤ 2 * (x + y) := by
  have h := ((Ed.same (List.replicate a 46)).app (Ed.nr (List.replicate x 46 ++ List.replicate y 92))).app (Ed.same (List.replicate b 92))
  rw [db_eq, List.append_nil] at h
  have h2 : lev (db (a + x) (y + b)) (db a b) ≤ _ := lev_le h
  simp only [List.length_append, List.length_replicate] at h2
  (first | lia | omega)
theorem lev_db_cross (a b x y : Nat) : lev (db (a + x) b) (db a (y + b)) ≤ 2 * max x y := by
  have h := ((Ed.same (List.replicate a 46)).app (Ed.dots x y)).app (Ed.same (List.replicate b 92))
  have e1 := db_eq a x 0 b
  have e2 := db_eq a 0 y b
  simp only [List.replicate_zero, List.append_nil, List.nil_append, Nat.zero_add, Nat.add_zero] at e1 e2
  rw [e1, e2] at h
  have := lev_le h
  (first | lia | omega)
theorem cnt46 (a b : Nat) : (db a b).count 46 = a := by simp [db, List.count_append, List.count_replicate]
theorem cnt92 (a b : Nat) : (db a b).count 92 = b := by simp [db, List.count_append, List.count_replicate]
theorem len_db (a b : Nat) : (db a b).length = a + b := by simp [db]
theorem hexP (x y : Nat) : max (max (((x : Int)).natAbs : Int) (((y : Int)).natAbs : Int)) (((x : Int) + y).natAbs : Int) = x + y := by
  rw [← Int.natCast_add, Int.natAbs_natCast, Int.natAbs_natCast, Int.natAbs_natCast]; (first | lia | omega)
theorem hexC (x y : Nat) : max (max (((x : Int)).natAbs : Int) ((-(y : Int)).natAbs : Int)) (((x : Int) + -(y : Int)).natAbs : Int) = max x y := by
  rw [Int.natAbs_neg, Int.natAbs_natCast, Int.natAbs_natCast]; (first | lia | omega)
theorem hexN (u v : Int) : max (max ((-u).natAbs : Int) ((-v).natAbs : Int)) ((-u + -v).natAbs : Int) = max (max (u.natAbs : Int) (v.natAbs : Int)) ((u + v).natAbs : Int) := by
  rw [← Int.neg_add, Int.natAbs_neg, Int.natAbs_neg, Int.natAbs_neg]
theorem subL (a x : Nat) : (((a + x : Nat) : Int) - a) = x := by (first | lia | omega)
theorem subR (a x : Nat) : ((a : Int) - ((a + x : Nat) : Int)) = -x := by (first | lia | omega)
theorem lev_dbP (a b x y : Nat) : (lev (db (a + x) (b + y)) (db a b) : Int) = 2 * max (max ((((a + x : Nat) : Int) - a).natAbs : Int) ((((b + y : Nat) : Int) - b).natAbs : Int)) ((((a + x : Nat) : Int) - a) + (((b + y : Nat) : Int) - b)).natAbs := by
  have l5 := (lev_ed (db (a + x) (b + y)) (db a b)).ge
  have l7 := lev_db_same a b x y
  rw [Nat.add_comm y b] at l7
  rw [len_db, len_db] at l5
  rw [subL, subL, hexP]
  (first | lia | omega)
theorem lev_dbC (a b x y : Nat) : (lev (db (a + x) b) (db a (b + y)) : Int) = 2 * max (max ((((a + x : Nat) : Int) - a).natAbs : Int) (((b : Int) - ((b + y : Nat) : Int)).natAbs : Int)) ((((a + x : Nat) : Int) - a) + ((b : Int) - ((b + y : Nat) : Int))).natAbs := by
  have hE := lev_ed (db (a + x) b) (db a (b + y))
  have l1 := hE.cnt (.inl rfl) (db_two _ _) (db_two _ _)
  have l4 := hE.symm.cnt (.inr rfl) (db_two _ _) (db_two _ _)
  have l7 := lev_db_cross a b x y
  rw [Nat.add_comm y b] at l7
  rw [cnt46, cnt46] at l1
  rw [cnt92, cnt92] at l4
  rw [subL, subR, hexC]
  (first | lia | omega)
theorem lev_db (a b a' b' : Nat) : (lev (db a b) (db a' b') : Int) = 2 * max (max (((a : Int) - a').natAbs : Int) (((b : Int) - b').natAbs : Int)) ((((a : Int) - a') + ((b : Int) - b')).natAbs : Int) := by
  rcases Nat.le_total a' a with h1 | h1 <;> obtain ⟨x, rfl⟩ := Nat.exists_eq_add_of_le h1 <;> rcases Nat.le_total b' b with h2 | h2 <;> obtain ⟨y, rfl⟩ := Nat.exists_eq_add_of_le h2
  · exact lev_dbP a' b' x y
  · exact lev_dbC a' b x y
  · rw [lev_comm', lev_dbC]
    rw [← hexN, Int.neg_sub, Int.neg_sub]
  · rw [lev_comm', lev_dbP]
    rw [← hexN, Int.neg_sub, Int.neg_sub]
theorem lev_wordL {p q : Int × Int} {c : Nat} (h1 : 0 ≤ p.1) (h3 : 0 ≤ p.2) (h5 : 0 ≤ q.1) (h7 : 0 ≤ q.2) :
    (lev (wordL p.1 p.2 [c]) (wordL q.1 q.2 [c]) : Int) = 2 * max (max ((p.1 - q.1).natAbs : Int) ((p.2 - q.2).natAbs : Int)) (((p.1 - q.1) + (p.2 - q.2)).natAbs : Int) := by
  unfold wordL
  rw [← List.append_assoc, ← List.append_assoc, lev_suffix', lev_db]
  rw [Int.toNat_of_nonneg h1, Int.toNat_of_nonneg h3, Int.toNat_of_nonneg h5, Int.toNat_of_nonneg h7]
end Mine
end
section
theorem Mine.forget_St3n : True := by
  w_top off
  trivial
open PySem PySem.W PyProof.Rows PySem.Calls PySem.Spec
set_option maxRecDepth 100000
set_option maxHeartbeats 2000000
namespace Mine
def wordS (t : Nat) (q : Int × Int) : Str := ⟨(wordL q.1 q.2 [t]).toArray⟩
structure TabT where
  c1 : Addr
  c2 : Addr
  oc1 : Obj
  oc2 : Obj
  vs : Array Value
  tq : Tok
abbrev tabLed (la lb : Nat) (P : Addr) : Option TabT → List (Addr × Obj)
  | none => [(P, tabObj #[])]
  | some x => [(P, tabObj (tabFull la lb x.c1 x.c2)), (x.c1, x.oc1), (x.c2, x.oc2)]
def TabOk : Option TabT → Prop
  | none => True
  | some x => x.oc1.data = .fields x.vs ∧ x.vs[1]? = some (.str rdQual x.tq)
/-- code objects that came later than the rest, or stood already -/
def TabNew (T₀ T : Option TabT) (news : List (Addr × Obj)) : Prop := ∀ y, T = some y → (∀ p ∈ news, @LT.lt Nat _ p.1 y.c1 ∧ @LT.lt Nat _ p.1 y.c2) ∨ ∃ y₀, T₀ = some y₀ ∧ y₀.c1 = y.c1 ∧ y₀.c2 = y.c2
def StatesRet (T₀ : Option TabT) (la lb : Nat) (P : Addr) (t : Nat) (z : Int) (ds : List Int) (dL : Addr) (vs : List Value) (ep : Nat) (news : List (Addr × Obj)) (v : Value) (nw : List (Addr × Obj)) : Prop :=
  ∃ (S : Addr) (us : List Value) (e9 : Nat) (T : Option TabT), v = .ref S ∧ StrsAre us ((placesOf z ds (ds.length + 1)).map (wordS t)) ∧ TabOk T ∧ nw = (S, listOf us.toArray e9) :: (dL, listOf vs.toArray ep) :: (tabLed la lb P T ++ news) ∧ @LT.lt Nat _ dL S ∧ TabNew T₀ T ((dL, listOf vs.toArray ep) :: news) ∧ (∀ p ∈ tabLed la lb P T ++ news, p.1 ≠ S)
local macro_rules | `(tactic| k_all) => `(tactic| first | assumption | exact allLt_ne (by assumption) (by omega) | exact allLt_ne (And.right (by assumption)) (by omega) | exact allLt_ne (And.right (And.right (by assumption))) (by omega) | exact allLt_ne (And.right (And.right (And.right (by assumption)))) (by omega) | exact allLt_ne (And.right (And.right (And.right (And.right (by assumption))))) (by omega))
local macro_rules | `(tactic| k_room) => `(tactic| ktr_room)
local macro_rules | `(tactic| k_units) => `(tactic| ktr_units)
local macro_rules | `(tactic| walk_at "pyIter ref") => `(tactic| (refine Held.out ?_))
local macro_rules | `(tactic| walk_at "call ref") => `(tactic| (refine Held.out ?_))
theorem strs_len : ∀ {vs : List Value} {ys : List Str}, StrsAre vs ys → vs.length = ys.length
  | _, _, .nil => rfl
  | _, _, .cons _ _ r => by rw [List.length_cons, List.length_cons, strs_len r]
theorem strs_snoc {y : Str} {t : Tok} : ∀ {vs : List Value} {ys : List Str}, StrsAre vs ys → StrsAre (vs ++ [.str y t]) (ys ++ [y])
  | _, _, .nil => .cons y t .nil
  | _, _, .cons z u r => .cons z u (strs_snoc r)
theorem places_map_succ {z : Int} {ds : List Int} {k t : Nat} : (placesOf z ds (k + 1 + 1)).map (wordS t) = (placesOf z ds (k + 1)).map (wordS t) ++ [wordS t (placeAt z ds (k + 1))] := by simp [placesOf, List.range_succ]
theorem st_permA {I S dL P : Addr} {it oS od oP : Obj} {news : List (Addr × Obj)} : ∀ p ∈ (P, oP) :: (I, it) :: (S, oS) :: (dL, od) :: news, p ∈ (I, it) :: (S, oS) :: (dL, od) :: ([(P, oP)] ++ news) := mem_blk [[(P, oP)], [(I, it), (S, oS), (dL, od)], news] [0, 1, 2] [1, 0, 2] (by decide)
theorem st_permB {I S dL P c1 c2 : Addr} {it oS od oP o1 o2 : Obj} {news : List (Addr × Obj)} : ∀ p ∈ (P, oP) :: (c1, o1) :: (c2, o2) :: (I, it) :: (S, oS) :: (dL, od) :: news, p ∈ (I, it) :: (S, oS) :: (dL, od) :: ([(P, oP), (c1, o1), (c2, o2)] ++ news) := mem_blk [[(P, oP), (c1, o1), (c2, o2)], [(I, it), (S, oS), (dL, od)], news] [0, 1, 2] [1, 0, 2] (by decide)
theorem st_permC {C : Addr} {x : Lx} {y : Ls} {I S dL P : Addr} {it oS od oP : Obj} {news : List (Addr × Obj)} : ∀ p ∈ (I, it) :: (S, oS) :: (dL, od) :: ([(P, oP), (x.c1, x.oc1), (x.c2, x.oc2)] ++ news), p ∈ x.led C y ++ (P, oP) :: (I, it) :: (S, oS) :: (dL, od) :: news := mem_blk [[(I, it), (S, oS), (dL, od)], [(P, oP)], [(x.c1, x.oc1)], [(x.c2, x.oc2)], news, [_], [_, _, _], [_, _, _, _, _]] [0, 1, 2, 3, 4] [5, 2, 6, 7, 3, 1, 0, 4] (by decide)
theorem Lx.Ord.dx {x : Lx} (h : x.Ord) : @LT.lt Nat _ x.cTx x.dx := by
  obtain ⟨a1, a2, a3, a4, a5, a6, a7, a8, a9, a10⟩ := h
  omega
theorem word_quot (t : Nat) (z : Int) (ds : List Int) (k : Nat) (h : ds[k]? = some 1) (ht : t ≠ 10) (ht2 : t ≠ 13) (hds : ∀ d ∈ ds, 0 ≤ d ∧ d ≤ 1) : (⟨(quot (lst (wordS t (placeAt z ds k)))).toArray⟩ : Str) = wordS t (placeAt z ds (k + 1)) := by
  obtain ⟨h1, _⟩ := place_lo (z := z) k hds
  unfold wordS
  rw [place_succ1 h, lst_mk, quot_word h1 ht ht2]
theorem word_gtok (t : Nat) (z : Int) (ds : List Int) (k : Nat) (h : ds[k]? = some 0) (ht : isWs t = false) (ht2 : t ≠ 92) (hds : ∀ d ∈ ds, 0 ≤ d ∧ d ≤ 1) : (⟨(gtok (lst (wordS t (placeAt z ds k)))).1.toArray⟩ : Str) = wordS t (placeAt z ds (k + 1)) := by
  obtain ⟨h1, h2⟩ := place_lo (z := z) k hds
  unfold wordS
  rw [place_succ0 h hds, lst_mk, gtok_word h1 h2 ht ht2]
theorem word_ok (t : Nat) (z : Int) (ds : List Int) (k : Nat) (hds : ∀ d ∈ ds, 0 ≤ d ∧ d ≤ 1) : okTok (lst (wordS t (placeAt z ds k))) := by
  obtain ⟨h1, h2⟩ := place_lo (z := z) k hds
  unfold wordS
  rw [lst_mk, wordL_cons h1, okTok.eq_def]
  simp [isWs]
theorem word_len (t : Nat) (z : Int) (ds : List Int) (k : Nat) (hz : 0 ≤ z) (hz2 : z < 72) (hl : k ≤ 20) (hds : ∀ d ∈ ds, 0 ≤ d ∧ d ≤ 1) : (wordS t (placeAt z ds k)).length ≤ 40 := by
  obtain ⟨s0, s1⟩ := take_sum hds k
  have hb : (placeAt z ds k).2 ≤ z / 3 % 8 := Int.ediv_le_self _ (by omega)
  have ha : (placeAt z ds k).1 = 1 + z % 3 + (ds.take k).sum := rfl
  rw [len_lst]
  unfold wordS
  rw [lst_mk]
  unfold wordL
  simp only [List.length_append, List.length_replicate, List.length_singleton]
  omega
theorem states_ctr (w : World) (p : Program) (loose : List Str) (mean : ExcName → Option Value) (mg mb : Str → Option Value) (news : List (Addr × Obj)) (t : Nat) (dL : Addr) (vs : List Value) (ds : List Int) (ep : Nat) (z : Int) (T : Option TabT) (tw : Tok) :
   Ctr (PySem.Challenge.rw_pe0114_03).row.prog w (hd.heap_39 w.params) p loose mean mg mb (fun h => CodeHd h 117 113) 125 6 ((dL, listOf vs.toArray ep) :: (tabLed 0x6b 0x6f 113 T ++ news))
     (0 ≤ z ∧ z < 72 ∧ IntsAre vs ds ∧ ds.length ≤ 8 ∧ (∀ d ∈ ds, 0 ≤ d ∧ d ≤ 1) ∧ isWs t = false ∧ t ≠ 92 ∧ TabOk T ∧ (∀ p ∈ (dL, listOf vs.toArray ep) :: news, p.1 ≠ 113)) [.str (wordS t (placeAt z ds 0)) tw, .ref dL]
     (StatesRet T 0x6b 0x6f 113 t z ds dL vs ep news) := by
  k_fill
  dsimp only [Ctr]
  intros
  rename_i hXt _ _ _ _ _ _ hpre _ _ hret
  obtain ⟨hz0, hz1, hI, hl, hds, hws, h92, hT, hn113⟩ := hpre
  have hIs : ∀ _ : Unit, IntsAre vs ds := fun _ => hI
  k_dflt cell_enter
  k_steps
  refine Held.put ?_
  rename_i S _ hlt _ _ _
  refine list_grow (σ := Str × Tok × List Value × Nat × Option TabT) (vs := vs) (ep := ep) (fun c => (S, listOf c.2.2.1.toArray c.2.2.2.1) :: (dL, listOf vs.toArray ep) :: (tabLed 0x6b 0x6f 113 c.2.2.2.2 ++ news))
    (fun c => [(Str.ofString "states", .ref S), (Str.ofString "word", .str c.1 c.2.1), (Str.ofString "deeds", .ref dL)])
    (fun k c => c.1 = wordS t (placeAt z ds k) ∧ StrsAre c.2.2.1 ((placesOf z ds (k + 1)).map (wordS t)) ∧ TabOk c.2.2.2.2 ∧ (∀ p ∈ tabLed 0x6b 0x6f 113 c.2.2.2.2 ++ news, p.1 ≠ S) ∧ TabNew T c.2.2.2.2 ((dL, listOf vs.toArray ep) :: news)) (wordS t (placeAt z ds 0), tw, [.str (wordS t (placeAt z ds 0)) tw], 0, T) rfl (by k_asm) (by k_asm) (by kst_all) ?hp ?hax ?turn ?done
  case hp => exact ⟨rfl, .cons _ _ .nil, hT, fun p hp => Nat.ne_of_lt (allLt_mem (And.right hlt) hp), fun y hy => .inr ⟨y, hy, rfl, rfl⟩⟩
  case hax => exact fun _ _ _ => .tail _ (.head _)
  case turn =>
    (rename Fr _ _ _ _ => oF; clear oF); (rename News _ _ _ _ => oN; clear oN)
    intro c k v u h tk I it hv hoff hP F' N'
    obtain ⟨wd, tq, us, e9, T1⟩ := c
    dsimp only [kstB] at F' hP N' hoff
    obtain ⟨hw, hU, hT1, hS, hNw⟩ := hP
    subst hw
    obtain ⟨d, td, rfl, hd⟩ := IntsAre.at (hIs ()) k v hv
    have hd01 := hds d (List.mem_of_getElem? hd)
    have hkl : k < ds.length := (List.getElem?_eq_some_iff.mp hd).1
    have hul : us.length = k + 1 := by have := strs_len hU; simpa [placesOf] using this
    have hus : us.toArray.size ≤ 10 := by rw [List.size_toArray, hul]; omega
    have hSI : @Ne Nat S I := hoff _ (.head _)
    have hdS : @LT.lt Nat _ dL S := hlt.1
    have hwl := word_len t z ds k hz0 hz1 (by omega) hds
    rcases (show d = 1 ∨ d = 0 by omega) with rfl | rfl
    · k_steps
      refine Held.put ?_
      k_dflt (refine' ctr_use (quotedata_ctr w p loose mean mg mb (fun h => CodeHd h 117 113) _ _ _) hXt ?k1 ?k2 ?k3 ?k4 ?k5 ?kK ?kp ?kd ?ku ?_; (case k1 => k_asm); (case k2 => k_asm); (case k3 => k_asm); (case k4 => k_asm); (case k5 => k_asm); (case kK => first | exact rfl | assumption); (case kd => ktr_room); (case ku => ktr_units))
      case kp => exact Nat.le_trans hwl (by decide)
      intro v' nw' h' tk' hr' F5 N5
      obtain ⟨⟨t', hv'⟩, rfl⟩ := hr'
      rw [word_quot t z ds k hd (fun e => by rw [e] at hws; cases hws) (fun e => by rw [e] at hws; cases hws) hds] at hv'
      subst hv'
      k_steps
      dsimp only [EndG]
      (rename News _ _ _ _ => N9); (rename Fr _ _ _ _ => F9)
      simp only [List.push_toArray] at N9
      refine' joinA_end (wordS t (placeAt z ds (k + 1)), t', us ++ [.str (wordS t (placeAt z ds (k + 1))) t'], e9 + 1, T1) F9 N9 (fun p hp => hp) (by kst_all) ⟨?off, rfl, ?st, hT1, hS, hNw⟩
      case off =>
        intro p hp
        rcases List.mem_cons.mp hp with h | h
        · rw [h]; exact hSI
        · exact hoff p (.tail _ h)
      case st => rw [places_map_succ]; exact strs_snoc hU
    · have hok := word_ok t z ds k hds
      cases T1 with
      | none =>
        have hSn : ∀ p ∈ news, p.1 ≠ S := fun p hp => hS p (List.mem_append_right _ hp)
        have hS113 : @Ne Nat 113 S := hS (113, tabObj #[]) (.head _)
        have hI113 : @Ne Nat 113 I := hoff (113, tabObj #[]) (.tail _ (.tail _ (.head _)))
        k_steps
        refine Held.put ?_
        have N5 : News _ _ _ ((113, tabObj #[]) :: (I, it) :: (S, listOf us.toArray e9) :: (dL, listOf vs.toArray ep) :: news) := fun p hp => N' p (st_permA p hp)
        k_dflt (refine' ctr_use (lexer_ctr w p loose mean mg mb _ _ _) hXt ?k1 ?k2 ?k3 N5 ?k5 ?kK ?kp ?kd ?ku ?_; (case k1 => k_asm); (case k2 => k_asm); (case k3 => k_asm); (case k5 => k_asm); (case kK => first | exact rfl | assumption); (case kd => ktr_room); (case ku => ktr_units))
        case kp => exact ⟨Nat.le_trans hwl (by decide), (fun p hp => by
          rcases List.mem_cons.mp hp with h | hp
          · rw [h]; exact Ne.symm hI113
          rcases List.mem_cons.mp hp with h | hp
          · rw [h]; exact Ne.symm hS113
          exact hn113 p hp)⟩
        intro v' nw' h' tk' hr' F5 N6
        obtain ⟨x, tp, tl, ea, ep2, vs2, t2, rfl, hOrd, hRd, hlow, hd1, hd2, hfr, hown, rfl⟩ := hr'
        clear N5
        simp only [List.cons_append, List.nil_append] at N6 hlow
        have hlow2 := hlow
        have hNw2 : TabNew T (some ⟨x.c1, x.c2, x.oc1, x.oc2, vs2, t2⟩) ((dL, listOf vs.toArray ep) :: news) := fun y hy => by
          cases hy
          exact .inl fun p hp => ⟨Nat.lt_trans (hlow p (.tail _ (.tail _ (.tail _ hp)))) (hfr rfl).1, Nat.lt_trans (hlow p (.tail _ (.tail _ (.tail _ hp)))) (hfr rfl).2⟩
        have hlS : @LT.lt Nat _ S x.cTx := hlow (S, _) (.tail _ (.tail _ (.head _)))
        have hlI : @LT.lt Nat _ I x.cTx := hlow (I, _) (.tail _ (.head _))
        have hxS1 : @Ne Nat x.c1 S := by have := (hfr rfl).1; exact Nat.ne_of_gt (Nat.lt_trans hlS this)
        have hxS2 : @Ne Nat x.c2 S := by have := (hfr rfl).2; exact Nat.ne_of_gt (Nat.lt_trans hlS this)
        have hxI1 : @Ne Nat x.c1 I := by have := (hfr rfl).1; exact Nat.ne_of_gt (Nat.lt_trans hlI this)
        have hxI2 : @Ne Nat x.c2 I := by have := (hfr rfl).2; exact Nat.ne_of_gt (Nat.lt_trans hlI this)
        k_steps
        refine Held.put ?_
        (rename News _ _ _ _ => nX)
        k_dflt (refine' ctr_use (get_token_ctr w p loose mean mg mb (fun h => CodeHd h 117 113) x 0 1 tp ea tl ep2 (wordS t (placeAt z ds k)) ((113, tabObj (tabFull 0x6b 0x6f x.c1 x.c2)) :: (I, it) :: (S, listOf us.toArray e9) :: (dL, listOf vs.toArray ep) :: news)) hXt ?k1 ?k2 ?k3 nX ?k5 ?kK ?kp ?kd ?ku ?_; (case k1 => k_asm); (case k2 => k_asm); (case k3 => k_asm); (case k5 => k_asm); (case kK => first | exact rfl | assumption); (case kd => ktr_room); (case ku => ktr_units))
        case kp => exact ⟨hOrd, hRd, Nat.le_trans hwl (by decide), by decide, by omega, by decide, by decide, (fun q hq => Nat.ne_of_lt (Nat.lt_trans (hlow2 q hq) (Nat.lt_trans hOrd.a1 hOrd.a2))), (fun q hq => Nat.ne_of_lt (Nat.lt_trans (hlow2 q hq) hOrd.dx)), hok⟩
        clear nX
        intro v' nw' h' tk' hr' F7 N7
        obtain ⟨pos', ln', tp2, tl2, tv, rfl, _, _, _, _, _, rfl⟩ := hr'
        have hwn : (⟨(gtok (txR (wordS t (placeAt z ds k)) 0)).1.toArray⟩ : Str) = wordS t (placeAt z ds (k + 1)) := word_gtok t z ds k hd hws h92 hds
        rw [hwn]
        clear hwn
        have N8 : News _ _ _ ((I, it) :: (S, listOf us.toArray e9) :: (dL, listOf vs.toArray ep) :: (tabLed 0x6b 0x6f 113 (some ⟨x.c1, x.c2, x.oc1, x.oc2, vs2, t2⟩) ++ news)) := fun p hp => N7 p (st_permC p hp)
        clear N7
        simp only [List.cons_append, List.nil_append] at N8
        k_steps
        dsimp only [EndG]
        (rename News _ _ _ _ => N9); (rename Fr _ _ _ _ => F9)
        simp only [List.push_toArray] at N9
        refine' joinA_end (wordS t (placeAt z ds (k + 1)), tv, us ++ [.str (wordS t (placeAt z ds (k + 1))) tv], e9 + 1, some ⟨x.c1, x.c2, x.oc1, x.oc2, vs2, t2⟩) F9 N9 (fun p hp => hp) (by kst_all) ⟨?off, rfl, ?st, ⟨hd1, hd2⟩, ?ne, hNw2⟩
        case off =>
          intro p hp
          simp only [List.cons_append, List.nil_append, List.mem_cons] at hp
          rcases hp with h | h | h | h | h | h
          · rw [h]; exact hSI
          · exact hoff p (by rw [h]; exact .tail _ (.head _))
          · rw [h]; exact hI113
          · rw [h]; exact hxI1
          · rw [h]; exact hxI2
          · exact hoff p (.tail _ (.tail _ (List.mem_append_right _ h)))
        case st => rw [places_map_succ]; exact strs_snoc hU
        case ne =>
          intro p hp
          simp only [List.cons_append, List.nil_append, List.mem_cons] at hp
          rcases hp with h | h | h | h
          · rw [h]; exact hS113
          · rw [h]; exact hxS1
          · rw [h]; exact hxS2
          · exact hS p (List.mem_append_right _ h)
      | some y =>
        have hSn : ∀ p ∈ news, p.1 ≠ S := fun p hp => hS p (List.mem_append_right _ hp)
        have hS113 : @Ne Nat 113 S := hS (113, tabObj (tabFull 0x6b 0x6f y.c1 y.c2)) (.head _)
        have hI113 : @Ne Nat 113 I := hoff (113, tabObj (tabFull 0x6b 0x6f y.c1 y.c2)) (.tail _ (.tail _ (.head _)))
        have hSc1 : @Ne Nat y.c1 S := hS (y.c1, y.oc1) (.tail _ (.head _))
        have hSc2 : @Ne Nat y.c2 S := hS (y.c2, y.oc2) (.tail _ (.tail _ (.head _)))
        have hIc1 : @Ne Nat y.c1 I := hoff (y.c1, y.oc1) (.tail _ (.tail _ (.tail _ (.head _))))
        have hIc2 : @Ne Nat y.c2 I := hoff (y.c2, y.oc2) (.tail _ (.tail _ (.tail _ (.tail _ (.head _)))))
        k_steps
        refine Held.put ?_
        have N5 : News _ _ _ ((113, tabObj (tabFull 0x6b 0x6f y.c1 y.c2)) :: (y.c1, y.oc1) :: (y.c2, y.oc2) :: (I, it) :: (S, listOf us.toArray e9) :: (dL, listOf vs.toArray ep) :: news) := fun p hp => N' p (st_permB p hp)
        k_dflt (refine' ctr_use (lexer_ctrB w p loose mean mg mb _ _ _ y.c1 y.c2 y.oc1 y.oc2 y.vs y.tq) hXt ?k1 ?k2 ?k3 N5 ?k5 ?kK ?kp ?kd ?ku ?_; (case k1 => k_asm); (case k2 => k_asm); (case k3 => k_asm); (case k5 => k_asm); (case kK => first | exact rfl | assumption); (case kd => ktr_room); (case ku => ktr_units))
        case kp => exact ⟨Nat.le_trans hwl (by decide), (fun p hp => by
          rcases List.mem_cons.mp hp with h | hp
          · rw [h]; exact Ne.symm hI113
          rcases List.mem_cons.mp hp with h | hp
          · rw [h]; exact Ne.symm hS113
          exact hn113 p hp), hT1.1, hT1.2⟩
        intro v' nw' h' tk' hr' F5 N6
        obtain ⟨x, tp, tl, ea, ep2, vs2, t2, rfl, hOrd, hRd, hlow, hd1, hd2, hfr, hown, rfl⟩ := hr'
        clear N5
        simp only [List.cons_append, List.nil_append] at N6 hlow
        have hlow2 : ∀ q ∈ (113, tabObj (tabFull 0x6b 0x6f x.c1 x.c2)) :: (I, it) :: (S, listOf us.toArray e9) :: (dL, listOf vs.toArray ep) :: news, q.1 < x.cTx := fun q hq => hlow q (by
          rcases List.mem_cons.mp hq with h | h
          · rw [h]; exact .head _
          · exact .tail _ (.tail _ (.tail _ h)))
        have hxc : x.c1 = y.c1 ∧ x.c2 = y.c2 := by
          rcases hown with e | e
          · cases e
          · simp only [List.cons.injEq, Prod.mk.injEq] at e
            exact ⟨e.1.1.symm, e.2.1.1.symm⟩
        have hNw2 : TabNew T (some ⟨x.c1, x.c2, x.oc1, x.oc2, vs2, t2⟩) ((dL, listOf vs.toArray ep) :: news) := fun y' hy => by
          cases hy
          dsimp only
          rw [hxc.1, hxc.2]
          exact hNw y rfl
        have hxS1 : @Ne Nat x.c1 S := by rw [hxc.1]; exact hSc1
        have hxS2 : @Ne Nat x.c2 S := by rw [hxc.2]; exact hSc2
        have hxI1 : @Ne Nat x.c1 I := by rw [hxc.1]; exact hIc1
        have hxI2 : @Ne Nat x.c2 I := by rw [hxc.2]; exact hIc2
        k_steps
        refine Held.put ?_
        (rename News _ _ _ _ => nX)
        k_dflt (refine' ctr_use (get_token_ctr w p loose mean mg mb (fun h => CodeHd h 117 113) x 0 1 tp ea tl ep2 (wordS t (placeAt z ds k)) ((113, tabObj (tabFull 0x6b 0x6f x.c1 x.c2)) :: (I, it) :: (S, listOf us.toArray e9) :: (dL, listOf vs.toArray ep) :: news)) hXt ?k1 ?k2 ?k3 nX ?k5 ?kK ?kp ?kd ?ku ?_; (case k1 => k_asm); (case k2 => k_asm); (case k3 => k_asm); (case k5 => k_asm); (case kK => first | exact rfl | assumption); (case kd => ktr_room); (case ku => ktr_units))
        case kp => exact ⟨hOrd, hRd, Nat.le_trans hwl (by decide), by decide, by omega, by decide, by decide, (fun q hq => Nat.ne_of_lt (Nat.lt_trans (hlow2 q hq) (Nat.lt_trans hOrd.a1 hOrd.a2))), (fun q hq => Nat.ne_of_lt (Nat.lt_trans (hlow2 q hq) hOrd.dx)), hok⟩
        clear nX
        intro v' nw' h' tk' hr' F7 N7
        obtain ⟨pos', ln', tp2, tl2, tv, rfl, _, _, _, _, _, rfl⟩ := hr'
        have hwn : (⟨(gtok (txR (wordS t (placeAt z ds k)) 0)).1.toArray⟩ : Str) = wordS t (placeAt z ds (k + 1)) := word_gtok t z ds k hd hws h92 hds
        rw [hwn]
        clear hwn
        have N8 : News _ _ _ ((I, it) :: (S, listOf us.toArray e9) :: (dL, listOf vs.toArray ep) :: (tabLed 0x6b 0x6f 113 (some ⟨x.c1, x.c2, x.oc1, x.oc2, vs2, t2⟩) ++ news)) := fun p hp => N7 p (st_permC p hp)
        clear N7
        simp only [List.cons_append, List.nil_append] at N8
        k_steps
        dsimp only [EndG]
        (rename News _ _ _ _ => N9); (rename Fr _ _ _ _ => F9)
        simp only [List.push_toArray] at N9
        refine' joinA_end (wordS t (placeAt z ds (k + 1)), tv, us ++ [.str (wordS t (placeAt z ds (k + 1))) tv], e9 + 1, some ⟨x.c1, x.c2, x.oc1, x.oc2, vs2, t2⟩) F9 N9 (fun p hp => hp) (by kst_all) ⟨?off, rfl, ?st, ⟨hd1, hd2⟩, ?ne, hNw2⟩
        case off =>
          intro p hp
          simp only [List.cons_append, List.nil_append, List.mem_cons] at hp
          rcases hp with h | h | h | h | h | h
          · rw [h]; exact hSI
          · exact hoff p (by rw [h]; exact .tail _ (.head _))
          · rw [h]; exact hI113
          · rw [h]; exact hxI1
          · rw [h]; exact hxI2
          · exact hoff p (.tail _ (.tail _ (List.mem_append_right _ h)))
        case st => rw [places_map_succ]; exact strs_snoc hU
        case ne =>
          intro p hp
          simp only [List.cons_append, List.nil_append, List.mem_cons] at hp
          rcases hp with h | h | h | h
          · rw [h]; exact hS113
          · rw [h]; exact hxS1
          · rw [h]; exact hxS2
          · exact hS p (List.mem_append_right _ h)
  case done =>
    (rename Fr _ _ _ _ => oF; clear oF); (rename News _ _ _ _ => oN; clear oN)
    intro c u h tk hP F' N'
    obtain ⟨wd, tq, us, e9, T1⟩ := c
    dsimp only [kstB] at F' hP N'
    obtain ⟨hw, hU, hT1, hS, hNw⟩ := hP
    rw [(hIs ()).length] at hU
    k_steps
    exact hret _ _ _ _ ⟨S, us, e9, T1, rfl, hU, hT1, rfl, hlt.1, hNw, hS⟩ (by k_asm) (by k_asm)
end Mine
end
section
theorem Mine.forget_MySl : True := by
  w_top off
  trivial
open PySem PySem.W PyProof.Rows PySem.Calls PySem.Spec
set_option maxRecDepth 100000
namespace Mine
section
variable {prog : Program} {w : World} {A : Around} {E : Value → Shared → Prop} {s : Shared} {h₀ : Heap} {L l : Addr} {m : Str → Option Value} {news : List (Addr × Obj)} {value slice : PySem.Expr} {vs : List Value} {ns : List Int} {x : Int} {tx : Tok} {Q : Value → Shared → Prop}
theorem slice_tmp (F : Fr h₀ L s.heap m) (N : News h₀ L s.heap news) (hl : s.heap.IsList l vs.toArray) (hi : IntsAre vs ns) (h0 : 0 ≤ x)
    (h : ∀ D ws h', Fr h₀ L h' m → News h₀ L h' ((D, listOf (List.toArray ws) 0) :: news) → (∀ p ∈ news, p.1 < D) → IntsAre ws (ns.drop x.toNat) → Q (.ref D) { s with heap := h' })
    (hs : subscripted slice false (.ref l) (.ref s.heap.objs.size) = operate [.ref s.heap.objs.size, .ref l] (getItem (.ref l) (.ref s.heap.objs.size))) (hz : vs.toArray.size ≤ sizeLine) :
    wpAny (model prog w) A (subscriptTail value slice (.ref l) (.ref s.heap.objs.size)) Q E { s with heap := s.heap.push { cls := .type "slice", data := .fields #[.int x tx, .none, .none] } } := by
  refine tail_any (Heap.IsList.typeIs (s := { s with heap := s.heap.push { cls := .type "slice", data := .fields #[.int x tx, .none, .none] } }) (hl.push _)) list_getitem_lookup
    (wpAny_getItem_list_slice (hl.push _) (Heap.IsSliceOf.new ..) (IsPart.int _ _) .none .none (by simp) ?_ hz) hs
  have N1 := News.push (F.push { cls := .type "slice", data := .fields #[.int x tx, .none, .none] }) (N.grown fun _ _ e => Heap.get?_push_of_some _ e) { cls := .type "list", data := .seq (slicePick vs.toArray (some x) none none) }
  rw [Heap.size_push] at N1
  show Q (.ref (s.heap.push _).objs.size) _
  rw [Heap.size_push]
  refine h _ (slicePick vs.toArray (some x) none none).toList _ ((F.push _).push _) ?_ (fun p hp => Nat.lt_succ_of_lt (Heap.lt_size (N p hp).1)) (kmk_from hi h0)
  rw [Array.toArray_toList]
  exact N1
theorem len_ints {ep : Nat} (N : News h₀ L s.heap news) (hm : (l, listOf vs.toArray ep) ∈ news) (hi : IntsAre vs ns) (hb : ns.length ≤ 1000)
    (h : ∀ t k, Q (.int ns.length t) { s with toks := k }) : wpAny (model prog w) A (call (.builtin "len") [.ref l]) Q E s := by
  have := len_list_made (prog := prog) (w := w) (A := A) (E := E) (Q := Q) (N.isList hm) (ke_carried hi) (by rw [List.length_map]; omega)
  rw [List.length_map] at this
  exact this (h _ _)
end
end Mine
end
section
theorem Mine.forget_MyC2 : True := by
  w_top off
  trivial
open PySem PySem.W PyProof.Rows PySem.Calls PySem.Spec
open PySem.Sem (wp)
set_option maxRecDepth 100000
set_option maxHeartbeats 1000000
namespace Mine
abbrev two (elt it1 it2 : Expr) (x y : Str) (px py : Pos) (ifs : List Expr) (scope : Scope) (pos : Pos) : Expr := .ListComp elt [⟨.Name x px, it1, [], 0⟩, ⟨.Name y py, it2, ifs, 0⟩] scope pos
section
variable {prog : Program} {w : World} {A : Around} {R : Result → Shared → Prop} {s : Shared} {elt it1 it2 : Expr} {x y : Str} {px py : Pos} {ifs : List Expr} {scope : Scope} {pos : Pos} {it acc : Value} {env : Env}
theorem turn_outer : compTurn (two elt it1 it2 x y px py ifs scope pos) 0 it acc env = (do
    standAt it1.pos
    match ← pyNext it with
    | none => pure (.done .next)
    | some v =>
      letOwnedTupleGo (.Name x px) it v
      assign (.Name x px) env v
      let z ← eval it2 env
      standAt it2.pos
      let z ← foldedSetIterable it2 env z
      let _ ← runOwn (.compStart (two elt it1 it2 x y px py ifs scope pos) 1 (← holding [z] (pyIter z)) acc env) env
      again (.compLoop (two elt it1 it2 x y px py ifs scope pos) 0 it acc env)) := by rfl
theorem turn_inner : compTurn (two elt it1 it2 x y px py ifs scope pos) 1 it acc env = (do
    standAt it2.pos
    match ← pyNext it with
    | none => pure (.done .next)
    | some v =>
      letOwnedTupleGo (.Name y py) it v
      assign (.Name y py) env v
      let mut ok := true
      for c in ifs do
        if ok then ok ← isTrue c env (eval c env)
      if ok then
        (do let _ ← call (.builtin "list.append") [acc, ← eval elt env])
      again (.compLoop (two elt it1 it2 x y px py ifs scope pos) 1 it acc env)) := by rfl
theorem code_inner (I : Nat → Shared → Prop)
    (turn : ∀ n s, I n s → wpAny (model prog w) A (pyNext it) (fun r s₁ => match r with
      | none => R (.ok .next) s₁
      | some v => wpAny (model prog w) A (assign (.Name y py) env v) (fun _ s₂ =>
          wpAny (model prog w) A (forIn ifs true fun c r => if r = true then do let ok ← isTrue c env (eval c env); pure (ForInStep.yield ok) else pure (ForInStep.yield r)) (fun ok s₃ =>
            if ok = true then wpAny (model prog w) A (eval elt env) (fun x s₄ =>
              wpAny (model prog w) A (call (.builtin "list.append") [acc, x]) (fun _ s₅ => ∃ m, m < n ∧ I m s₅) (notedBy (model prog w) A env fun e s' => R (.error e) s') s₄) (notedBy (model prog w) A env fun e s' => R (.error e) s') s₃
            else ∃ m, m < n ∧ I m s₃) (notedBy (model prog w) A env fun e s' => R (.error e) s') s₂) (notedBy (model prog w) A env fun e s' => R (.error e) s') s₁) (notedBy (model prog w) A env fun e s' => R (.error e) s') s)
    (n : Nat) (h : I n s) : codeAny (model prog w) A (.compLoop (two elt it1 it2 x y px py ifs scope pos) 1 it acc env) R s := by
  refine codeAny_loop rfl I (fun n s hI => ?_) n h
  show wpAny _ A ((compTurn (two elt it1 it2 x y px py ifs scope pos) 1 it acc env).onRaise (fun x => do noteFrame x env; theTreesLotGoes x)) _ _ s
  refine wpAny_noted ?_
  rw [turn_inner]
  refine wpAny_bind (wpAny_standAt (wpAny_bind (wpAny_mono (turn n s hI) (fun r s₁ h₁ => ?_) fun _ _ h' => h')))
  cases r with
  | none => exact wpAny_pure h₁
  | some v =>
    refine wpAny_bind (wpAny_of_eq (show letOwnedTupleGo (.Name y py) it v = pure () from rfl) ?_)
    refine wpAny_bind (wpAny_mono h₁ (fun _ s₂ h₂ => wpAny_bind (wpAny_mono h₂ (fun ok s₃ h₃ => ?_) fun _ _ h' => h')) fun _ _ h' => h')
    cases ok with
    | false => exact wpAny_pure ⟨rfl, h₃⟩
    | true =>
      exact wpAny_bind (wpAny_bind (wpAny_mono h₃ (fun x s₄ h₄ => wpAny_bind (wpAny_mono h₄ (fun _ s₅ h₅ => wpAny_pure (wpAny_pure ⟨rfl, h₅⟩)) fun _ _ h' => h')) fun _ _ h' => h'))
theorem code_outer (I : Nat → Shared → Prop) (hf : ∀ z, foldedSetIterable it2 env z = pure z)
    (turn : ∀ n s, I n s → wpAny (model prog w) A (pyNext it) (fun r s₁ => match r with
      | none => R (.ok .next) s₁
      | some v => wpAny (model prog w) A (assign (.Name x px) env v) (fun _ s₂ =>
          wpAny (model prog w) A (eval it2 env) (fun z s₃ => wpAny (model prog w) A (pyIter z) (fun it' s₄ =>
            codeAny (model prog w) A (.compStart (two elt it1 it2 x y px py ifs scope pos) 1 it' acc env) (fun r s' => match r with | .ok _ => ∃ m, m < n ∧ I m s' | .error e => cameBackBy (model prog w) A env (notedBy (model prog w) A env fun e s' => R (.error e) s') e s') s₄)
            (notedBy (model prog w) A env fun e s' => R (.error e) s') s₃) (notedBy (model prog w) A env fun e s' => R (.error e) s') s₂) (notedBy (model prog w) A env fun e s' => R (.error e) s') s₁) (notedBy (model prog w) A env fun e s' => R (.error e) s') s)
    (n : Nat) (h : I n s) : codeAny (model prog w) A (.compLoop (two elt it1 it2 x y px py ifs scope pos) 0 it acc env) R s := by
  refine codeAny_loop rfl I (fun n s hI => ?_) n h
  show wpAny _ A ((compTurn (two elt it1 it2 x y px py ifs scope pos) 0 it acc env).onRaise (fun x => do noteFrame x env; theTreesLotGoes x)) _ _ s
  refine wpAny_noted ?_
  rw [turn_outer]
  refine wpAny_bind (wpAny_standAt (wpAny_bind (wpAny_mono (turn n s hI) (fun r s₁ h₁ => ?_) fun _ _ h' => h')))
  cases r with
  | none => exact wpAny_pure h₁
  | some v =>
    refine wpAny_bind (wpAny_of_eq (show letOwnedTupleGo (.Name x px) it v = pure () from rfl) ?_)
    refine wpAny_bind (wpAny_mono h₁ (fun _ s₂ h₂ => wpAny_bind (wpAny_mono h₂ (fun z s₃ h₃ => wpAny_bind (wpAny_standAt (wpAny_bind (wpAny_of_eq (hf z) ?_)))) fun _ _ h' => h')) fun _ _ h' => h')
    refine wpAny_bind (wpAny_holding (wpAny_mono h₃ (fun it' s₄ h₄ => ?_) fun _ _ h' => h'))
    exact wpAny_bind (wpAny_runOwn (codeAny_mono h₄ fun r s' hr => by
      cases r with
      | ok f => exact wpAny_pure ⟨rfl, hr⟩
      | error e => exact hr))
theorem code_start (h0 : codeAny (model prog w) A (.compLoop (two elt it1 it2 x y px py ifs scope pos) 1 it acc env) R s)
    (h : wpAny (model prog w) A (pyIter it) (fun it' s' => codeAny (model prog w) A (.compLoop (two elt it1 it2 x y px py ifs scope pos) 1 it' acc env) R s')
      (notedBy (model prog w) A env fun x s' => R (.error x) s') s) :
    codeAny (model prog w) A (.compStart (two elt it1 it2 x y px py ifs scope pos) 1 it acc env) R s := by
  refine codeAny_of_tree ?_
  show wpAny _ _ ((compStart (two elt it1 it2 x y px py ifs scope pos) 1 it acc env).onRaise (fun x => do noteFrame x env; standAt theWindowsPlace)) _ _ s
  refine wpAny_notedAt ?_
  unfold compStart
  show wpAny _ _ (ask >>= _) _ _ s
  refine wpAny_bind (wpAny_askSetting (wpAny_ite ?_))
  split
  · first
      | exact wpAny_bind (wpAny_pure (wpAny_pure (And.intro rfl h0)))
      | exact wpAny_pure (And.intro rfl h0)
  · first
      | exact wpAny_bind (wpAny_rule (wpAny_bind (wpAny_standAt (wpAny_bind (wpAny_mono h (fun it' s' h' => wpAny_pure (And.intro rfl h')) fun _ _ x => x)))))
      | (refine wpAny_bind (wpAny_rule ?_); show wpAny _ _ (standAt it2.pos >>= _) _ _ s; exact wpAny_bind (wpAny_standAt (wpAny_bind (wpAny_mono h (fun it' s' h' => wpAny_pure (And.intro rfl h')) fun _ _ x => x))))
end
/-- a list of texts is read -/
theorem strs_reads {h : Heap} : ∀ {vs : List Value} {ys : List Str}, StrsAre vs ys → ∃ as, ReadsAll h vs (ys.map PyData.str) as
  | _, _, .nil => ⟨_, ReadsAll.nil⟩
  | _, _, .cons y t r => by
    obtain ⟨as, q⟩ := strs_reads r
    exact ⟨_, ReadsAll.cons (Reads.str y t) q⟩
theorem strs_lay : ∀ {ys : List Str}, (∀ y ∈ ys, PyData.strOk y = true) → PyData.canLayAll0 (ys.map PyData.str) = true ∧ PyData.depthAll (ys.map PyData.str) ≤ 1
  | [], _ => by simp [PyData.canLayAll0, PyData.depthAll]
  | y :: r, h => by
    have h1 := h y (.head _)
    have h2 := strs_lay (ys := r) fun z hz => h z (.tail _ hz)
    simp [PyData.canLayAll0, PyData.depthAll, PyData.canLay0, PyData.depth, h1, h2.1, h2.2]
theorem strs_shaped {ys : List Str} (h : ∀ y ∈ ys, PyData.strOk y = true) : SeqAt.shaped (.list (ys.map PyData.str)) = true := by
  have := strs_lay h
  simp [SeqAt.shaped, PyData.canLay0, PyData.depth, this.1]
  omega
section
variable {prog : Program} {w : World} {A : Around} {E : Value → Shared → Prop} {s : Shared} {h₀ : Heap} {L a b : Addr} {news : List (Addr × Obj)} {vs ws : List Value} {ys : List Str} {e1 e2 : Nat} {Q : Value → Shared → Prop}
theorem strs_same (N : News h₀ L s.heap news) (ha : (a, listOf vs.toArray e1) ∈ news) (hb : (b, listOf ws.toArray e2) ∈ news) (hi : StrsAre vs ys) (hj : StrsAre ws ys) (hk : ∀ y ∈ ys, PyData.strOk y = true) (hu : A.units + 64 < cLine) :
    (∀ Q : Value → Shared → Prop, Q (.bool false) s → wpAny (model prog w) A (compareOp .NotEq (.ref a) (.ref b)) Q E s) ∧ (∀ Q : Value → Shared → Prop, Q (.bool true) s → wpAny (model prog w) A (compareOp .Eq (.ref a) (.ref b)) Q E s) := by
  obtain ⟨as, r1⟩ := strs_reads (h := s.heap) hi
  obtain ⟨bs, r2⟩ := strs_reads (h := s.heap) hj
  have e : PyData.eqv (.list (ys.map PyData.str)) (.list (ys.map PyData.str)) = true := by
    rw [PyData.eqv]; exact PySem.SeqAt.eqvAll_refl _ (strs_lay hk).1
  refine ⟨fun Q h => ?_, fun Q h => ?_⟩
  · refine ne_dataH (reads_list_at (N.get ha) rfl rfl (by simpa using r1)) (reads_list_at (N.get hb) rfl rfl (by simpa using r2)) (strs_shaped hk) (strs_shaped hk) hu ?_
    rw [e]; exact h
  · refine eq_dataH (reads_list_at (N.get ha) rfl rfl (by simpa using r1)) (reads_list_at (N.get hb) rfl rfl (by simpa using r2)) (strs_shaped hk) (strs_shaped hk) hu ?_
    rw [e]; exact h
end
end Mine
end
section
theorem Mine.forget_MyC3 : True := by
  w_top off
  trivial
open PySem PySem.W PyProof.Rows PySem.Calls PySem.Spec
set_option maxRecDepth 100000
set_option maxHeartbeats 1000000
namespace Mine
section
variable {prog : Program} {w : World} {A : Around} {E : Value → Shared → Prop} {s : Shared} {h₀ : Heap} {L : Addr} {m : Str → Option Value} {env : Env} {elt it1 it2 : Expr} {x y : Str} {px py : Pos} {ifs : List Expr} {scope : Scope} {cl : List (Str × Addr)} {pos : Pos}
/-- an inner turn's end -/
def End2 {σ : Type} (h₀ : Heap) (L : Addr) (m : Str → Option Value) (s : Shared) (own : List (Addr × Obj)) (Led : σ → List (Addr × Obj)) (off : List Addr) (P : σ → Prop) (s₂ : Shared) : Prop :=
  ∃ c h' tk news', s₂ = { s with heap := h', toks := tk } ∧ Fr h₀ L h' m ∧ News h₀ L h' news' ∧ (∀ p ∈ own ++ Led c, p ∈ news') ∧ (∀ p ∈ Led c, p.1 ∉ off) ∧ P c
theorem fr_but2 {h h' : Heap} {I : Addr} (F : Fr h₀ L h m) (hk : ∀ b o, b ∉ [I] → h.get? b = some o → h'.get? b = some o) (hL : L ≠ I) (hI : h₀.get? I = none) : Fr h₀ L h' m :=
  ⟨F.ns.at' fun o e => hk L o (by simpa using hL) e, fun b o e => hk b o (fun hm => by rw [List.mem_singleton.mp hm, hI] at e; cases e) (F.keep b o e), F.above⟩
theorem news_but2 {h h' : Heap} {I : Addr} {news : List (Addr × Obj)} (N : News h₀ L h news) (hk : ∀ b o, b ∉ [I] → h.get? b = some o → h'.get? b = some o) (off : ∀ p ∈ news, p.1 ≠ I) : News h₀ L h' news :=
  fun p hp => ⟨hk _ _ (by simpa using off p hp) (N p hp).1, (N p hp).2⟩
/-- the inner loop -/
theorem inner_loop {σ : Type} {I C D bx : Addr} {oI : Obj} {its : Array Value} {ep : Nat} {v1 : Value} (Led : σ → List (Addr × Obj)) (P : Nat → σ → List Value → Prop) {R : Result → Shared → Prop}
    (hh : A.handled = none) (hkind : scope.kind = .function) (hy : scope.names.lookup y = some .local) (hxy : x ≠ y)
    (hb : ∀ j c ys, P j c ys → (bx, listOf its ep) ∈ Led c) (hsz : ∀ j c ys, P j c ys → ys.length ≤ sizeLine) (hCD : C ≠ D) (hIC : I ≠ C) (hID : I ≠ D)
    (turn : ∀ j c ys v2 I2 oI2 oC m₂ h tk (E' : Value → Shared → Prop), its[j]? = some v2 → P j c ys → LCg.NsObj oC m₂ → m₂ x = some v1 → m₂ y = some v2 → Fr h₀ L h m →
      News h₀ L h ((I2, oI2) :: (I, oI) :: (C, oC) :: (D, LCg.lst ys) :: Led c) → (∀ p ∈ Led c, p.1 ∉ [I2, I, C, D]) → (I2 ≠ I ∧ I2 ≠ C ∧ I2 ≠ D) →
      wpAny (model prog w) A (forIn ifs true fun c r => if r = true then do let ok ← isTrue c (compEnvC scope cl C env) (eval c (compEnvC scope cl C env)); pure (ForInStep.yield ok) else pure (ForInStep.yield r)) (fun ok s₃ =>
        if ok = true then wpAny (model prog w) A (eval elt (compEnvC scope cl C env)) (fun z s₄ => End2 h₀ L m { s with heap := h, toks := tk } [(I2, oI2), (I, oI), (C, oC), (D, LCg.lst ys)] Led [I2, I, C, D] (fun c' => P (j + 1) c' (ys ++ [z])) s₄) E' s₃
        else End2 h₀ L m { s with heap := h, toks := tk } [(I2, oI2), (I, oI), (C, oC), (D, LCg.lst ys)] Led [I2, I, C, D] (fun c' => P (j + 1) c' ys) s₃) E' { s with heap := h, toks := tk })
    {c₀ : σ} {ys₀ : List Value} {oC : Obj} {m₂ : Str → Option Value} (hC : LCg.NsObj oC m₂) (hx1 : m₂ x = some v1) (hp : P 0 c₀ ys₀)
    {h₁ : Heap} {tk₁ : Nat} (F : Fr h₀ L h₁ m) (N : News h₀ L h₁ ((I, oI) :: (C, oC) :: (D, LCg.lst ys₀) :: Led c₀)) (off : ∀ p ∈ Led c₀, p.1 ∉ [I, C, D])
    (done : ∀ c ys oC m₂ h tk, P its.size c ys → LCg.NsObj oC m₂ → Fr h₀ L h m → News h₀ L h ((I, oI) :: (C, oC) :: (D, LCg.lst ys) :: Led c) → (∀ p ∈ Led c, p.1 ∉ [I, C, D]) → R (.ok .next) { s with heap := h, toks := tk }) :
    wpAny (model prog w) A (pyIter (.ref bx)) (fun it' s₄ => codeAny (model prog w) A (.compStart (two elt it1 it2 x y px py ifs scope pos) 1 it' (.ref D) (compEnvC scope cl C env)) R s₄) E { s with heap := h₁, toks := tk₁ } := by
  have hbx := N (bx, _) (.tail _ (.tail _ (.tail _ (hb 0 c₀ ys₀ hp))))
  have hl : h₁.IsList bx its := ⟨_, hbx.1, rfl, _, rfl⟩
  refine wpAny_pyIter_list hl ?_
  have hlt : ∀ p ∈ (I, oI) :: (C, oC) :: (D, LCg.lst ys₀) :: Led c₀, p.1 < h₁.objs.size := fun p hp => Heap.lt_size (N p hp).1
  have hI2L : L ≠ h₁.objs.size := Nat.ne_of_lt F.ns.lt
  have hI2₀ : h₀.get? h₁.objs.size = none := next_is_new F
  have hbxl : bx < h₁.objs.size := Heap.lt_size hbx.1
  generalize hH2 : h₁.push { cls := .type "list_iterator", data := .fields #[.ref bx, .int 0 0] } = H2
  have up : ∀ b o, h₁.get? b = some o → H2.get? b = some o := fun b o e => hH2 ▸ Heap.get?_push_of_some _ e
  have W := Walks.list (prog := prog) (w := w) hh h₁.objs.size bx (Nat.ne_of_lt hbxl) its
  have hst : H2.IsListIter h₁.objs.size bx 0 ∧ H2.IsList bx its := ⟨⟨_, hH2 ▸ Heap.get?_push_size _ rfl, rfl, rfl⟩, ⟨_, up _ _ hbx.1, rfl, _, rfl⟩⟩
  have hCI2 : C ≠ h₁.objs.size := Nat.ne_of_lt (hlt (C, oC) (.tail _ (.head _)))
  have hDI2 : D ≠ h₁.objs.size := Nat.ne_of_lt (hlt (D, _) (.tail _ (.tail _ (.head _))))
  have hII2 : I ≠ h₁.objs.size := Nat.ne_of_lt (hlt (I, oI) (.head _))
  have hCL : C ≠ L := (N (C, oC) (.tail _ (.head _))).2.1
  have hC₀ : h₀.get? C = none := (N (C, oC) (.tail _ (.head _))).2.2
  have hDL : D ≠ L := (N (D, _) (.tail _ (.tail _ (.head _)))).2.1
  have hD₀ : h₀.get? D = none := (N (D, _) (.tail _ (.tail _ (.head _)))).2.2
  have off₀ : ∀ p ∈ Led c₀, p.1 ∉ [h₁.objs.size, I, C, D] := fun p hp hm => by
    rcases List.mem_cons.mp hm with e | hm
    · exact absurd (hlt p (.tail _ (.tail _ (.tail _ hp)))) (by rw [e]; exact Nat.lt_irrefl _)
    · exact off p hp hm
  have loop : ∀ s₃ : Shared, s₃ = { s with heap := H2, toks := tk₁ } → codeAny (model prog w) A (.compLoop (two elt it1 it2 x y px py ifs scope pos) 1 (.ref h₁.objs.size) (.ref D) (compEnvC scope cl C env)) R s₃ := by
    rintro s₃ rfl
    refine code_inner (fun k s' => ∃ h' tk j ys oC m₂ c, s' = { s with heap := h', toks := tk } ∧ j ≤ its.size ∧ k = its.size + 1 - j ∧ (h'.IsListIter h₁.objs.size bx j ∧ h'.IsList bx its) ∧ P j c ys ∧ LCg.NsObj oC m₂ ∧ m₂ x = some v1 ∧ Fr h₀ L h' m ∧
      News h₀ L h' ((I, oI) :: (C, oC) :: (D, LCg.lst ys) :: Led c) ∧ (∀ p ∈ Led c, p.1 ∉ [h₁.objs.size, I, C, D])) ?_ (its.size + 1)
      ⟨H2, tk₁, 0, ys₀, oC, m₂, c₀, rfl, Nat.zero_le _, rfl, hst, hp, hC, hx1, F.keeps up, fun p hp => ⟨up _ _ (N p hp).1, (N p hp).2⟩, off₀⟩
    rintro k s' ⟨h', tk, j, ys, oC, m₂, c, rfl, hj, rfl, hst', hp', hC', hx', F', N', off'⟩
    have offN : ∀ p ∈ (I, oI) :: (C, oC) :: (D, LCg.lst ys) :: Led c, p.1 ≠ h₁.objs.size := fun p hp => by
      rcases List.mem_cons.mp hp with rfl | hp
      · exact hII2
      rcases List.mem_cons.mp hp with rfl | hp
      · exact hCI2
      rcases List.mem_cons.mp hp with rfl | hp
      · exact hDI2
      · exact fun e => off' p hp (by rw [e]; exact .head _)
    by_cases hlt2 : j < its.size
    · refine W.item j _ _ _ hlt2 hst' fun v h₂ tk₂ hPv hst₂ hk₂ => ?_
      have F₂ := fr_but2 F' hk₂ hI2L hI2₀
      have N₂ := news_but2 N' hk₂ offN
      refine wpAny_assign_Name (wpAny_storeName_local (lookup_relabel_local hy) (hC'.ns (N₂ (C, oC) (.tail _ (.head _))).1) (fun h₃ hn₃ hs₃ => ?_) (by simp [compEnvC, relabel, hkind]))
      obtain ⟨oC3, heC3, hoC3⟩ := LCg.ns_obj hn₃
      have F₃ : Fr h₀ L h₃ m := F₂.change hs₃ hCL hC₀
      obtain ⟨oI2, heI2⟩ : ∃ o, h₂.get? h₁.objs.size = some o := by obtain ⟨o, e, _⟩ := hst₂.1; exact ⟨o, e⟩
      have heI3 : h₃.get? h₁.objs.size = some oI2 := hs₃.extBut _ _ (Ne.symm hCI2) heI2
      have N₃ : News h₀ L h₃ ((h₁.objs.size, oI2) :: (I, oI) :: (C, oC3) :: (D, LCg.lst ys) :: Led c) := fun p hp => by
        rcases List.mem_cons.mp hp with rfl | hp
        · exact ⟨heI3, Ne.symm hI2L, hI2₀⟩
        rcases List.mem_cons.mp hp with rfl | hp
        · have z := N₂ (I, oI) (.head _)
          exact ⟨hs₃.extBut _ _ hIC z.1, z.2⟩
        rcases List.mem_cons.mp hp with rfl | hp
        · exact ⟨heC3, hCL, hC₀⟩
        rcases List.mem_cons.mp hp with rfl | hp
        · have z := N₂ (D, LCg.lst ys) (.tail _ (.tail _ (.head _)))
          exact ⟨hs₃.extBut _ _ (Ne.symm hCD) z.1, z.2⟩
        · have z := N₂ p (.tail _ (.tail _ (.tail _ hp)))
          exact ⟨hs₃.extBut _ _ (fun e => off' p hp (by rw [show p.1 = C from e]; simp)) z.1, z.2⟩
      have fin : ∀ (ys' : List Value) (s₅ : Shared) (oD : Obj), oD = LCg.lst ys' → ∀ c' h₅ tk₅, s₅ = { s with heap := h₅, toks := tk₅ } → Fr h₀ L h₅ m → News h₀ L h₅ ((h₁.objs.size, oI2) :: (I, oI) :: (C, oC3) :: (D, oD) :: Led c') → (∀ p ∈ Led c', p.1 ∉ [h₁.objs.size, I, C, D]) → P (j + 1) c' ys' →
          ∃ k', k' < its.size + 1 - j ∧ ∃ h' tk j ys oC m₂ c, s₅ = { s with heap := h', toks := tk } ∧ j ≤ its.size ∧ k' = its.size + 1 - j ∧ (h'.IsListIter h₁.objs.size bx j ∧ h'.IsList bx its) ∧ P j c ys ∧ LCg.NsObj oC m₂ ∧ m₂ x = some v1 ∧ Fr h₀ L h' m ∧
            News h₀ L h' ((I, oI) :: (C, oC) :: (D, LCg.lst ys) :: Led c) ∧ (∀ p ∈ Led c, p.1 ∉ [h₁.objs.size, I, C, D]) := by
        rintro ys' s₅ oD rfl c' h₅ tk₅ rfl F₅ N₅ off₅ hp₅
        refine ⟨its.size + 1 - (j + 1), by omega, h₅, tk₅, j + 1, ys', oC3, _, c', rfl, hlt2, rfl, ⟨?_, ?_⟩, hp₅, hoC3, ?_, F₅, fun p hp => N₅ p (.tail _ hp), off₅⟩
        · obtain ⟨o, e, r⟩ := hst₂.1
          rw [heI2] at e; cases e
          exact ⟨oI2, (N₅ _ (.head _)).1, r⟩
        · exact ⟨_, (N₅ (bx, listOf its ep) (.tail _ (.tail _ (.tail _ (.tail _ (hb _ _ _ hp₅)))))).1, rfl, _, rfl⟩
        · rw [if_neg hxy]; exact hx'
      refine wpAny_mono (turn j c ys v h₁.objs.size oI2 oC3 _ h₃ _ _ hPv hp' hoC3 (by rw [if_neg hxy]; exact hx') (by rw [if_pos rfl]) F₃ N₃ off' ⟨Ne.symm hII2, Ne.symm hCI2, Ne.symm hDI2⟩) (fun ok s₄ hq => ?_) fun _ _ e => e
      cases ok with
      | false =>
        simp only [Bool.false_eq_true, if_false] at hq ⊢
        obtain ⟨c', h₅, tk₅, news', rfl, F₅, N₅, sub, off₅, hp₅⟩ := hq
        exact fin ys _ _ rfl c' h₅ tk₅ rfl F₅ (fun p hp => N₅ p (sub p hp)) off₅ hp₅
      | true =>
        simp only [if_true] at hq ⊢
        refine wpAny_mono hq (fun z s₅ hz => ?_) fun _ _ e => e
        obtain ⟨c', h₅, tk₅, news', rfl, F₅, N₅, sub, off₅, hp₅⟩ := hz
        have N₅' : News h₀ L h₅ ((h₁.objs.size, oI2) :: (I, oI) :: (C, oC3) :: (D, LCg.lst ys) :: Led c') := fun p hp => N₅ p (sub p hp)
        refine append_at (hsz := by show ys.toArray.size ≤ sizeLine; rw [List.size_toArray]; exact hsz _ _ _ hp') (N₅' (D, LCg.lst ys) (.tail _ (.tail _ (.tail _ (.head _))))).1 fun h₆ hs₆ hD₆ => ?_
        refine fin (ys ++ [z]) _ _ rfl c' h₆ tk₅ rfl (F₅.change hs₆ hDL hD₀) (fun p hp => ?_) off₅ hp₅
        rcases List.mem_cons.mp hp with rfl | hp
        · have q := N₅' _ (.head _); exact ⟨hs₆.extBut _ _ (Ne.symm hDI2) q.1, q.2⟩
        rcases List.mem_cons.mp hp with rfl | hp
        · have q := N₅' (I, oI) (.tail _ (.head _)); exact ⟨hs₆.extBut _ _ hID q.1, q.2⟩
        rcases List.mem_cons.mp hp with rfl | hp
        · have q := N₅' (C, oC3) (.tail _ (.tail _ (.head _))); exact ⟨hs₆.extBut _ _ hCD q.1, q.2⟩
        rcases List.mem_cons.mp hp with rfl | hp
        · exact ⟨hD₆.trans (congrArg some (LCg.lst_snoc ys z)), hDL, hD₀⟩
        · have q := N₅' p (.tail _ (.tail _ (.tail _ (.tail _ hp)))); exact ⟨hs₆.extBut _ _ (fun e => off₅ p hp (by rw [show p.1 = D from e]; simp)) q.1, q.2⟩
    · obtain rfl : j = its.size := Nat.le_antisymm hj (Nat.not_lt.mp hlt2)
      refine W.done _ _ _ hst' fun h₂ tk₂ hk₂ => ?_
      exact done c ys oC m₂ h₂ tk₂ hp' hC' (fr_but2 F' hk₂ hI2L hI2₀) (news_but2 N' hk₂ offN) fun p hp hm => off' p hp (.tail _ hm)
  exact code_start (loop _ rfl) (W.self 0 _ _ _ hst (loop _ rfl))
end
end Mine
end
section
theorem Mine.forget_MyC4 : True := by
  w_top off
  trivial
open PySem PySem.W PyProof.Rows PySem.Calls PySem.Spec
set_option maxRecDepth 100000
set_option maxHeartbeats 1000000
namespace Mine
section
variable {prog : Program} {w : World} {A : Around} {E : Value → Shared → Prop} {s : Shared} {h₀ : Heap} {L : Addr} {m : Str → Option Value} {env : Env} {elt it1 it2 : Expr} {x y : Str} {px py : Pos} {ifs : List Expr} {scope : Scope} {cl : List (Str × Addr)} {pos : Pos}
/-- what a comprehension with two clauses asks of its turns -/
structure Turns2 {σ : Type} (prog : Program) (w : World) (A : Around) (h₀ : Heap) (L : Addr) (m : Str → Option Value) (env : Env) (elt it2 : Expr) (x y : Str) (ifs : List Expr) (scope : Scope) (cl : List (Str × Addr)) (s : Shared) (I : Addr) (n : Nat) (Pv : Nat → Value → Prop)
    (Led : σ → List (Addr × Obj)) (P : Nat → σ → List Value → Prop) (P2 : Nat → Nat → σ → List Value → Prop) (bx : Nat → Addr) (its : Nat → Array Value) (ep : Nat → Nat) : Prop where
  src : ∀ i c ys v1 oI C oC D m₂ h tk (Q : Value → Shared → Prop) (E' : Value → Shared → Prop), i < n → Pv i v1 → P i c ys → LCg.NsObj oC m₂ → m₂ x = some v1 → Fr h₀ L h m → News h₀ L h ((I, oI) :: (C, oC) :: (D, LCg.lst ys) :: Led c) →
    (∀ tk', Q (.ref (bx i)) { s with heap := h, toks := tk' }) → wpAny (model prog w) A (eval it2 (compEnvC scope cl C env)) Q E' { s with heap := h, toks := tk }
  go : ∀ i c ys, i < n → P i c ys → P2 i 0 c ys
  back : ∀ i c ys, i < n → P2 i (its i).size c ys → P (i + 1) c ys
  has : ∀ i j c ys, P2 i j c ys → (bx i, listOf (its i) (ep i)) ∈ Led c
  size : ∀ i j c ys, P2 i j c ys → ys.length ≤ sizeLine
  turn : ∀ i v1 j c ys v2 oI C D I2 oI2 oC m₂ h tk (E' : Value → Shared → Prop), i < n → Pv i v1 → (its i)[j]? = some v2 → P2 i j c ys → LCg.NsObj oC m₂ → m₂ x = some v1 → m₂ y = some v2 → Fr h₀ L h m →
      News h₀ L h ((I2, oI2) :: (I, oI) :: (C, oC) :: (D, LCg.lst ys) :: Led c) → (∀ p ∈ Led c, p.1 ∉ [I2, I, C, D]) → (I2 ≠ I ∧ I2 ≠ C ∧ I2 ≠ D) →
      wpAny (model prog w) A (forIn ifs true fun c r => if r = true then do let ok ← isTrue c (compEnvC scope cl C env) (eval c (compEnvC scope cl C env)); pure (ForInStep.yield ok) else pure (ForInStep.yield r)) (fun ok s₃ =>
        if ok = true then wpAny (model prog w) A (eval elt (compEnvC scope cl C env)) (fun z s₄ => End2 h₀ L m { s with heap := h, toks := tk } [(I2, oI2), (I, oI), (C, oC), (D, LCg.lst ys)] Led [I2, I, C, D] (fun c' => P2 i (j + 1) c' (ys ++ [z])) s₄) E' s₃
        else End2 h₀ L m { s with heap := h, toks := tk } [(I2, oI2), (I, oI), (C, oC), (D, LCg.lst ys)] Led [I2, I, C, D] (fun c' => P2 i (j + 1) c' ys) s₃) E' { s with heap := h, toks := tk }
theorem outer_block {σ : Type} {I : Addr} {fp : List Addr} {n : Nat} {Pv : Nat → Value → Prop} {St : Nat → Heap → Prop} {Led : σ → List (Addr × Obj)} {P : Nat → σ → List Value → Prop} {P2 : Nat → Nat → σ → List Value → Prop} {bx : Nat → Addr} {its : Nat → Array Value} {ep : Nat → Nat}
    {RR : Value → Addr → Result → Shared → Prop} {c₀ : σ}
    (W : Walks prog w A I fp [I] n Pv St) (hIo : ∀ i h, St i h → ∃ o, h.get? I = some o) (hh : A.handled = none)
    (hSt : ∀ i h h' o c ys, St i h → h.get? I = some o → h'.get? I = some o → (∀ b o, h₀.get? b = some o → h'.get? b = some o) → News h₀ L h' (Led c) → P i c ys → St i h')
    (hcell : ∀ y ∈ scope.names, y.2 ≠ .cell) (hkind : scope.kind = .function) (hx : scope.names.lookup x = some .local) (hy : scope.names.lookup y = some .local) (hxy : x ≠ y) (hf : ∀ env z, foldedSetIterable it2 env z = pure z)
    (hst : St 0 s.heap) (hfp : ∀ b ∈ fp, b < s.heap.objs.size) (F : Fr h₀ L s.heap m) (N : News h₀ L s.heap (Led c₀)) (hIL : L ≠ I) (hI₀ : h₀.get? I = none) (off : ∀ p ∈ Led c₀, p.1 ≠ I)
    (T : Turns2 prog w A h₀ L m env elt it2 x y ifs scope cl s I n Pv Led P P2 bx its ep) (hp : P 0 c₀ [])
    (hRR : ∀ D C h tk m' ys c, Fr h₀ L h m → News h₀ L h ((D, LCg.lst ys) :: Led c) → (∀ p ∈ Led c, p.1 ≠ D) → h.Ns C m' → h₀.get? C = none → h₀.get? D = none → C ≠ L → D ≠ L → C ≠ D → (∀ p ∈ Led c, p.1 ≠ C) → P n c ys → RR (.ref D) C (.ok .next) { s with heap := h, toks := tk }) :
    wpAny (model prog w) A (newList []) (fun acc s₃ => wpAny (model prog w) A (newFunctionEnv scope env.globals cl [] env.qual none .none (some env)) (fun cenv s₄ =>
      codeAny (model prog w) A (.compStart (two elt it1 it2 x y px py ifs scope pos) 0 (.ref I) acc { cenv with scope := relabel scope env }) (RR acc cenv.locals) s₄) E s₃) E s := by
  refine wpAny_newObj_type (wpAny_newFunctionEnv hcell (by intro y hy; simp at hy) (fun h₁ hns₁ hsb₁ => ?_) hkind)
  dsimp only at hns₁ hsb₁ ⊢
  generalize hH2 : s.heap.push { cls := .type "list", dict := none, data := .seq ([] : List Value).toArray } = H2 at hns₁ hsb₁ ⊢
  have hC : H2.objs.size = s.heap.objs.size + 1 := by rw [← hH2, Heap.size_push]
  have hDC : s.heap.objs.size ≠ H2.objs.size := by rw [hC]; exact Nat.ne_of_lt (Nat.lt_succ_self _)
  have below : ∀ b, b < s.heap.objs.size → b ≠ H2.objs.size ∧ b ≠ s.heap.objs.size := fun b hb => ⟨by rw [hC]; exact Nat.ne_of_lt (Nat.lt_succ_of_lt hb), Nat.ne_of_lt hb⟩
  have hCf : H2.objs.size ∉ fp := fun hm => by have := hfp _ hm; rw [hC] at this; exact Nat.lt_irrefl _ (Nat.lt_of_succ_lt this)
  have hIlt : I < s.heap.objs.size := hfp I (W.sub I (List.mem_singleton.mpr rfl))
  have old : ∀ b o, s.heap.get? b = some o → h₁.get? b = some o := fun b o e => hsb₁.extBut b o (below b (Heap.lt_size e)).1 (Heap.get?_push_of_some _ (hH2 ▸ Heap.get?_push_of_some _ e))
  have hacc : h₁.get? s.heap.objs.size = some (LCg.lst []) := hsb₁.extBut _ _ hDC (Heap.get?_push_of_some _ (hH2 ▸ Heap.get?_push_size _ rfl))
  have hst₁ : St 0 h₁ := W.frame _ _ _ hst fun b _ o e => old b o e
  have fresh : ∀ a, s.heap.objs.size ≤ a → s.heap.get? a = none := fun a ha => by
    cases e : s.heap.get? a with
    | none => rfl
    | some o' => exact absurd (Heap.lt_size e) (Nat.not_lt.mpr ha)
  have fresh₀ : ∀ a, s.heap.objs.size ≤ a → h₀.get? a = none := fun a ha => by
    cases e : h₀.get? a with
    | none => rfl
    | some o' => have := F.keep a o' e; rw [fresh a ha] at this; cases this
  have hD₀ : h₀.get? s.heap.objs.size = none := fresh₀ _ (Nat.le_refl _)
  have hC₀ : h₀.get? H2.objs.size = none := fresh₀ _ (by rw [hC]; exact Nat.le_succ _)
  have hLlt : L < s.heap.objs.size := F.ns.lt
  have hDL : s.heap.objs.size ≠ L := Ne.symm (below L hLlt).2
  have hCL : H2.objs.size ≠ L := Ne.symm (below L hLlt).1
  have hIC : I ≠ H2.objs.size := (below I hIlt).1
  have hID : I ≠ s.heap.objs.size := (below I hIlt).2
  have off₀ : ∀ p ∈ Led c₀, p.1 ∉ [I, H2.objs.size, s.heap.objs.size] := fun p hp hm => by
    have hlt := Heap.lt_size (N p hp).1
    simp only [List.mem_cons, List.not_mem_nil, or_false] at hm
    rcases hm with e | e | e
    · exact off p hp e
    · exact (below _ hlt).1 e
    · exact (below _ hlt).2 e
  have loop : ∀ s₃ : Shared, s₃ = { s with heap := h₁, toks := s.toks + ([] : List (Str × Value)).length } →
      codeAny (model prog w) A (.compLoop (two elt it1 it2 x y px py ifs scope pos) 0 (.ref I) (.ref s.heap.objs.size) (compEnvC scope cl H2.objs.size env)) (RR (.ref s.heap.objs.size) H2.objs.size) s₃ := by
    rintro s₃ rfl
    refine code_outer (fun k s' => ∃ h' tk i ys m' c, s' = { s with heap := h', toks := tk } ∧ i ≤ n ∧ k = n + 1 - i ∧ St i h' ∧ Fr h₀ L h' m ∧ h'.Ns H2.objs.size m' ∧ News h₀ L h' ((s.heap.objs.size, LCg.lst ys) :: Led c) ∧
      (∀ p ∈ Led c, p.1 ∉ [I, H2.objs.size, s.heap.objs.size]) ∧ P i c ys) (hf _) ?_ (n + 1) ⟨h₁, _, 0, [], _, c₀, rfl, Nat.zero_le _, rfl, hst₁, F.keeps old, hns₁, fun p hp => ?_, off₀, hp⟩
    · rintro k s' ⟨h', tk, i, ys, m', c, rfl, hi, rfl, hst', F', hn', N', off', hp'⟩
      have offI : ∀ p ∈ (s.heap.objs.size, LCg.lst ys) :: Led c, p.1 ≠ I := fun p hp => by
        rcases List.mem_cons.mp hp with rfl | hp
        · exact Ne.symm hID
        · exact fun e => off' p hp (by rw [e]; exact .head _)
      by_cases hlt : i < n
      · refine W.item i _ _ _ hlt hst' fun v h₂ tk₂ hPv hst₂ hk₂ => ?_
        refine wpAny_assign_Name (wpAny_storeName_local (lookup_relabel_local hx) (hn'.at' fun o e => hk₂ _ o (by simpa using Ne.symm hIC) e) (fun h₃ hn₃ hs₃ => ?_) (by simp [compEnvC, relabel, hkind]))
        have hst₃ : St (i + 1) h₃ := W.frame _ _ _ hst₂ fun b hb o e => hs₃.extBut b o (fun q => hCf (by have q' : b = H2.objs.size := q; rw [← q']; exact hb)) e
        obtain ⟨oI, heI⟩ := hIo _ _ hst₃
        obtain ⟨oC, heC, hoC⟩ := LCg.ns_obj hn₃
        have F₃ : Fr h₀ L h₃ m := (fr_but2 F' hk₂ hIL hI₀).change hs₃ hCL hC₀
        have N₂ := news_but2 N' hk₂ offI
        have N₃ : News h₀ L h₃ ((I, oI) :: (H2.objs.size, oC) :: (s.heap.objs.size, LCg.lst ys) :: Led c) := fun p hp => by
          rcases List.mem_cons.mp hp with rfl | hp
          · exact ⟨heI, Ne.symm hIL, hI₀⟩
          rcases List.mem_cons.mp hp with rfl | hp
          · exact ⟨heC, hCL, hC₀⟩
          have z := N₂ p hp
          refine ⟨hs₃.extBut _ _ ?_ z.1, z.2⟩
          rcases List.mem_cons.mp hp with rfl | hp
          · exact hDC
          · exact fun e => off' p hp (by rw [show p.1 = H2.objs.size from e]; simp)
        refine T.src i c ys v oI _ oC _ _ h₃ _ _ _ hlt hPv hp' hoC (by rw [if_pos rfl]) F₃ N₃ fun tk₃ => ?_
        refine inner_loop (s := s) (R := fun r s' => match r with | .ok _ => ∃ m_1, m_1 < n + 1 - i ∧ _ | .error e => _) Led (P2 i) hh hkind hy hxy (fun j c ys => T.has i j c ys) (fun j c ys => T.size i j c ys) (Ne.symm hDC) hIC hID
          (fun j c ys v2 I2 oI2 oC m₂ h tk E' h1 h2 h3 h4 h5 h6 h7 h8 h9 => T.turn i v j c ys v2 oI _ _ I2 oI2 oC m₂ h tk E' hlt hPv h1 h2 h3 h4 h5 h6 h7 h8 h9) hoC (by rw [if_pos rfl]) (T.go i c ys hlt hp') F₃ N₃ off' ?_
        intro c' ys' oC' m₂' h₄ tk₄ hp₄ hC₄ F₄ N₄ off₄
        refine ⟨n + 1 - (i + 1), by omega, h₄, tk₄, i + 1, ys', _, c', rfl, hlt, rfl, ?_, F₄, hC₄.ns (N₄ (H2.objs.size, oC') (.tail _ (.head _))).1, fun p hp => N₄ p (.tail _ (.tail _ hp)), off₄, T.back i c' ys' hlt hp₄⟩
        exact hSt _ _ _ _ c' ys' hst₃ heI (N₄ (I, oI) (.head _)).1 F₄.keep (fun p hp => N₄ p (.tail _ (.tail _ (.tail _ hp)))) (T.back i c' ys' hlt hp₄)
      · obtain rfl : i = n := Nat.le_antisymm hi (Nat.not_lt.mp hlt)
        refine W.done _ _ _ hst' fun h₂ tk₂ hk₂ => ?_
        exact hRR _ _ h₂ tk₂ _ ys c (fr_but2 F' hk₂ hIL hI₀) (news_but2 N' hk₂ offI) (fun p hp e => off' p hp (by rw [e]; simp)) (hn'.at' fun o e => hk₂ _ o (by simpa using Ne.symm hIC) e) hC₀ hD₀ hCL hDL (Ne.symm hDC) (fun p hp e => off' p hp (by rw [e]; simp)) hp'
    · rcases List.mem_cons.mp hp with rfl | hp
      · exact ⟨hacc, hDL, hD₀⟩
      · exact ⟨old _ _ (N p hp).1, (N p hp).2⟩
  exact codeAny_compStart_list (loop _ rfl) (W.self 0 _ _ _ hst₁ (loop _ rfl))
end
end Mine
end
section
theorem Mine.forget_MyC5 : True := by
  w_top off
  trivial
open PySem PySem.W PyProof.Rows PySem.Calls PySem.Spec
set_option maxRecDepth 100000
set_option maxHeartbeats 1000000
namespace Mine
def Src2 (prog : Program) (w : World) (A : Around) (h₀ : Heap) (L : Addr) (m : Str → Option Value) (env : Env) (elt it2 : Expr) (x y : Str) (ifs : List Expr) (scope : Scope) (cl : List (Str × Addr)) (Fin : Shared → List Value → List (Addr × Obj) → Prop) (xv : Value) (s₁ : Shared) : Prop :=
  ∃ (σ : Type) (ax : Addr) (its1 : Array Value) (ep1 : Nat) (Led : σ → List (Addr × Obj)) (P : Nat → σ → List Value → Prop) (P2 : Nat → Nat → σ → List Value → Prop) (bx : Nat → Addr) (its : Nat → Array Value) (ep : Nat → Nat) (c₀ : σ),
    xv = .ref ax ∧ A.handled = none ∧ Fr h₀ L s₁.heap m ∧ News h₀ L s₁.heap (Led c₀) ∧ (∀ i c ys, P i c ys → (ax, listOf its1 ep1) ∈ Led c) ∧ P 0 c₀ [] ∧
    (∀ s₂ I, (∃ h, s₂ = { s₁ with heap := h }) → Turns2 prog w A h₀ L m env elt it2 x y ifs scope cl s₂ I its1.size (fun i v => its1[i]? = some v) Led P P2 bx its ep) ∧
    (∀ s₂ c ys, (∃ h, s₂ = { s₁ with heap := h }) → P its1.size c ys → Fin s₂ ys (Led c))
theorem off1_of {D : Addr} : ∀ {l : List (Addr × Obj)}, (∀ p ∈ l, p.1 ≠ D) → LCg.Off1 D l
  | [], _ => trivial
  | _ :: _, h => ⟨h _ (.head _), off1_of fun p hp => h p (.tail _ hp)⟩
section
variable {prog : Program} {w : World} {A : Around} {E : Value → Shared → Prop} {s : Shared} {h₀ : Heap} {L : Addr} {m : Str → Option Value} {env : Env} {elt it1 it2 : Expr} {x y : Str} {px py : Pos} {ifs : List Expr} {scope : Scope} {cl : List (Str × Addr)} {pos : Pos}
theorem list_comp2 {Q : Value → Shared → Prop} (F₀ : Fr h₀ L s.heap m)
    (hclos : closureFor scope env = pure cl) (hcell : ∀ y ∈ scope.names, y.2 ≠ .cell) (hkind : scope.kind = .function)
    (hnames : ∀ y ∈ scope.names, y.2 = .local → scope.names.lookup y.1 = some .local) (hx : scope.names.lookup x = some .local) (hy : scope.names.lookup y = some .local) (hxy : x ≠ y) (hf : ∀ env z, foldedSetIterable it2 env z = pure z)
    (h : wpAny (model prog w) A (eval it1 env) (Src2 prog w A h₀ L m env elt it2 x y ifs scope cl (fun s₂ => LCg.FinE h₀ L m s₂ Q)) E s)
    (hs : ∀ x, foldedSetIterable it1 env x = pure x := by intro _; rfl) :
    wpAny (model prog w) A (eval (two elt it1 it2 x y px py ifs scope pos) env) Q E s := by
  rw [eval_ListComp]
  refine wpAny_comprehension_free (use := none) rfl hs hclos hkind hnames (wpAny_mono h (fun xv s₁ h₁ => ?_) fun _ _ e => e)
  obtain ⟨σ, ax, its1, ep1, Led, P, P2, bx, its, ep, c₀, rfl, hh, F, N, hax, hp, T, fin⟩ := h₁
  have hm := N (ax, _) (hax _ _ _ hp)
  have hl : s₁.heap.IsList ax its1 := ⟨_, hm.1, rfl, _, rfl⟩
  have hlt : ax < s₁.heap.objs.size := Heap.lt_size hm.1
  refine wpAny_pyIter_list hl ?_
  have up : ∀ b o, s₁.heap.get? b = some o → (s₁.heap.push { cls := .type "list_iterator", data := .fields #[.ref ax, .int 0 0] }).get? b = some o := fun b o e => Heap.get?_push_of_some _ e
  refine outer_block (Led := Led) (P := P) (P2 := P2) (bx := bx) (its := its) (ep := ep) (c₀ := c₀) (Walks.list hh s₁.heap.objs.size ax (Nat.ne_of_lt hlt) its1) (fun i h st => by obtain ⟨o, e, _⟩ := st.1; exact ⟨o, e⟩) hh
    (fun i h h' o c ys st e e' k Nc hpc => ⟨by obtain ⟨o', q, r⟩ := st.1; rw [e] at q; cases q; exact ⟨o, e', r⟩, ⟨_, (Nc _ (hax _ _ _ hpc)).1, rfl, _, rfl⟩⟩)
    hcell hkind hx hy hxy hf ⟨⟨_, Heap.get?_push_size _ rfl, rfl, rfl⟩, hl.push _⟩ (fun b hb => ?_) (F.keeps up) (N.grown up) (Nat.ne_of_lt F.ns.lt) (next_is_new F) (fun p hp => Nat.ne_of_lt (Heap.lt_size (N p hp).1)) (T _ _ ⟨_, rfl⟩) hp ?_
  · show b < (s₁.heap.push _).objs.size
    rw [Heap.size_push]
    rcases List.mem_cons.mp hb with rfl | hb
    · exact Nat.lt_succ_self _
    · rw [List.mem_singleton.mp hb]; exact Nat.lt_succ_of_lt hlt
  · intro D C h tk m' ys c F' N' o1 hn hC₀ hD₀ hCL hDL hCD offC hpn
    refine ⟨m', hn, fun h'' hs'' => fin { s₁ with heap := s₁.heap.push { cls := .type "list_iterator", data := .fields #[.ref ax, .int 0 0] } } c ys ⟨_, rfl⟩ hpn D h'' tk (F'.change hs'' hCL hC₀) (fun p hp => ?_) (off1_of o1)⟩
    refine ⟨hs''.extBut _ _ ?_ (N' p hp).1, (N' p hp).2⟩
    rcases List.mem_cons.mp hp with rfl | hp
    · exact Ne.symm hCD
    · exact offC p hp
theorem assign_comp2 {z : Str} {pz : Pos} {spos : Pos} {Q : Flow → Shared → Prop} (F₀ : Fr h₀ L s.heap m) (hLe : env.locals = L)
    (hsw : swapsWith (two elt it1 it2 x y px py ifs scope pos) (some (.Name z pz)) spos.line env = pure true)
    (hclos : closureFor scope env = pure cl) (hcell : ∀ y ∈ scope.names, y.2 ≠ .cell) (hkind : scope.kind = .function)
    (hnames : ∀ y ∈ scope.names, y.2 = .local → scope.names.lookup y.1 = some .local) (hx : scope.names.lookup x = some .local) (hy : scope.names.lookup y = some .local) (hxy : x ≠ y) (hf : ∀ env z, foldedSetIterable it2 env z = pure z)
    (hz : env.kindOf z = some .local) (hpz : (env.scope.kind == .class || (env.scope.kind == .module && env.locals != env.globals)) = false)
    (h : wpAny (model prog w) A (eval it1 env) (Src2 prog w A h₀ L m env elt it2 x y ifs scope cl (fun s₂ => LCg.FinA h₀ L m s₂ z Q)) E s)
    (hs : ∀ x, foldedSetIterable it1 env x = pure x := by intro _; rfl) :
    wpAny (model prog w) A (exec (.Assign [.Name z pz] (two elt it1 it2 x y px py ifs scope pos) spos) env) Q E s := by
  subst hLe
  rw [exec_Assign_Name_used _ _ _ _ hsw]
  refine wpAny_bind (wpAny_standAt (wpAny_bind ?_))
  show wpAny _ A (do let _ ← comprehension (two elt it1 it2 x y px py ifs scope pos) scope env _ (newList []) false (eval it1 env) (some (assign (.Name z pz) env))) _ _ s
  refine wpAny_bind (wpAny_mono (wpAny_comprehension_free (use := some (assign (.Name z pz) env)) (Q := fun _ s' => Q .next s') rfl hs hclos hkind hnames
    (wpAny_mono h (fun xv s₁ h₁ => ?_) fun _ _ e => e)) (fun _ s' hq => wpAny_pure (wpAny_pure hq)) fun _ _ e => e)
  obtain ⟨σ, ax, its1, ep1, Led, P, P2, bx, its, ep, c₀, rfl, hh, F, N, hax, hp, T, fin⟩ := h₁
  have hm := N (ax, _) (hax _ _ _ hp)
  have hl : s₁.heap.IsList ax its1 := ⟨_, hm.1, rfl, _, rfl⟩
  have hlt : ax < s₁.heap.objs.size := Heap.lt_size hm.1
  refine wpAny_pyIter_list hl ?_
  have up : ∀ b o, s₁.heap.get? b = some o → (s₁.heap.push { cls := .type "list_iterator", data := .fields #[.ref ax, .int 0 0] }).get? b = some o := fun b o e => Heap.get?_push_of_some _ e
  refine outer_block (Led := Led) (P := P) (P2 := P2) (bx := bx) (its := its) (ep := ep) (c₀ := c₀) (Walks.list hh s₁.heap.objs.size ax (Nat.ne_of_lt hlt) its1) (fun i h st => by obtain ⟨o, e, _⟩ := st.1; exact ⟨o, e⟩) hh
    (fun i h h' o c ys st e e' k Nc hpc => ⟨by obtain ⟨o', q, r⟩ := st.1; rw [e] at q; cases q; exact ⟨o, e', r⟩, ⟨_, (Nc _ (hax _ _ _ hpc)).1, rfl, _, rfl⟩⟩)
    hcell hkind hx hy hxy hf ⟨⟨_, Heap.get?_push_size _ rfl, rfl, rfl⟩, hl.push _⟩ (fun b hb => ?_) (F.keeps up) (N.grown up) (Nat.ne_of_lt F.ns.lt) (next_is_new F) (fun p hp => Nat.ne_of_lt (Heap.lt_size (N p hp).1)) (T _ _ ⟨_, rfl⟩) hp ?_
  · show b < (s₁.heap.push _).objs.size
    rw [Heap.size_push]
    rcases List.mem_cons.mp hb with rfl | hb
    · exact Nat.lt_succ_self _
    · rw [List.mem_singleton.mp hb]; exact Nat.lt_succ_of_lt hlt
  · intro D C h tk m' ys c F' N' o1 hn hC₀ hD₀ hCL hDL hCD offC hpn
    show wpAny _ A (assign (.Name z pz) env (.ref D)) _ _ _
    refine wpAny_assign_Name (wpAny_storeName_local hz F'.ns (fun h₂ hn₂ hs₂ => ?_) hpz)
    have hL₀ : h₀.get? env.locals = none := Heap.get?_none_of_le F'.above
    have F₂ : Fr h₀ env.locals h₂ (fun q => if q = z then some (.ref D) else m q) := ⟨hn₂, fun b o e => hs₂.extBut b o (fun q => by rw [q, hL₀] at e; cases e) (F'.keep b o e), F'.above⟩
    refine ⟨m', hn.sameBut hs₂ hCL, fun h'' hs'' => fin { s₁ with heap := s₁.heap.push { cls := .type "list_iterator", data := .fields #[.ref ax, .int 0 0] } } c ys ⟨_, rfl⟩ hpn D h'' _ (F₂.change hs'' hCL hC₀) (fun p hp => ?_) (off1_of o1)⟩
    have q : h₂.get? p.1 = some p.2 := hs₂.extBut _ _ (N' p hp).2.1 (N' p hp).1
    refine ⟨hs''.extBut _ _ ?_ q, (N' p hp).2⟩
    rcases List.mem_cons.mp hp with rfl | hp
    · exact Ne.symm hCD
    · exact offC p hp
end
end Mine
end
section
theorem Mine.forget_MyC6 : True := by
  w_top off
  trivial
open PySem PySem.W PyProof.Rows PySem.Calls PySem.Spec
set_option maxRecDepth 100000
set_option maxHeartbeats 1000000
namespace Mine
/-- an int is made, the ledger stands -/
def IntEnd (r : Int) (s : Shared) (h₀ : Heap) (L : Addr) (m : Str → Option Value) (N : List (Addr × Obj)) (z : Value) (s₄ : Shared) : Prop := ∃ t h' tk', z = .int r t ∧ s₄ = { s with heap := h', toks := tk' } ∧ Fr h₀ L h' m ∧ News h₀ L h' N
theorem IntEnd.made {r k : Int} {t : Tok} {s : Shared} {h₀ h' : Heap} {L : Addr} {m : Str → Option Value} {N : List (Addr × Obj)} {tk' : Nat} (e : k = r) (F : Fr h₀ L h' m) (hN : News h₀ L h' N) : IntEnd r s h₀ L m N (.int k t) { s with heap := h', toks := tk' } := ⟨t, h', tk', by rw [e], rfl, F, hN⟩
def flat (f : Nat → Nat → Int) (n m : Nat) : List Int := (List.range n).flatMap fun i => (List.range m).map (f i)
theorem flat_succ (f : Nat → Nat → Int) (n m : Nat) : flat f (n + 1) m = flat f n m ++ (List.range m).map (f n) := by
  simp [flat, List.range_succ]
theorem flat_len (f : Nat → Nat → Int) (n m : Nat) : (flat f n m).length = n * m := by
  induction n with
  | zero => simp [flat]
  | succ n ih => rw [flat_succ, List.length_append, ih, List.length_map, List.length_range, Nat.succ_mul]
theorem flat_congr {f g : Nat → Nat → Int} {n m : Nat} (h : ∀ i j, i < n → j < m → f i j = g i j) : flat f n m = flat g n m := by
  induction n with
  | zero => simp [flat]
  | succ n ih =>
    rw [flat_succ, flat_succ, ih fun i j hi hj => h i j (by omega) hj]
    congr 1
    apply List.map_congr_left
    intro j hj
    exact h n j (by omega) (List.mem_range.mp hj)
section
variable {prog : Program} {w : World} {A : Around} {s : Shared} {h₀ : Heap} {L : Addr} {m : Str → Option Value} {env : Env} {elt it1 it2 : Expr} {x y : Str} {scope : Scope} {cl : List (Str × Addr)}
theorem turns_ints {N : List (Addr × Obj)} {I bx : Addr} {as bs : List Value} {e2 : Nat} {f : Nat → Nat → Int} (hb : (bx, listOf bs.toArray e2) ∈ N) (hn : as.length ≤ 100) (hm : bs.length ≤ 100)
    (src : ∀ (i : Nat) v1 oI C oC D m₂ ys h tk (Q : Value → Shared → Prop) (E' : Value → Shared → Prop), as[i]? = some v1 → LCg.NsObj oC m₂ → m₂ x = some v1 → Fr h₀ L h m → News h₀ L h ((I, oI) :: (C, oC) :: (D, LCg.lst ys) :: N) →
      (∀ tk', Q (.ref bx) { s with heap := h, toks := tk' }) → wpAny (model prog w) A (eval it2 (compEnvC scope cl C env)) Q E' { s with heap := h, toks := tk })
    (turn : ∀ (i j : Nat) v1 v2 oI C D I2 oI2 oC m₂ ys h tk (E' : Value → Shared → Prop), as[i]? = some v1 → bs[j]? = some v2 → LCg.NsObj oC m₂ → m₂ x = some v1 → m₂ y = some v2 → Fr h₀ L h m → News h₀ L h ((I2, oI2) :: (I, oI) :: (C, oC) :: (D, LCg.lst ys) :: N) →
      wpAny (model prog w) A (eval elt (compEnvC scope cl C env)) (IntEnd (f i j) s h₀ L m ((I2, oI2) :: (I, oI) :: (C, oC) :: (D, LCg.lst ys) :: N)) E' { s with heap := h, toks := tk }) :
    Turns2 prog w A h₀ L m env elt it2 x y [] scope cl s I as.toArray.size (fun i v => as.toArray[i]? = some v) (fun _ : Unit => N) (fun i _ ys => IntsAre ys (flat f i bs.length) ∧ i ≤ as.length)
      (fun i j _ ys => IntsAre ys (flat f i bs.length ++ (List.range j).map (f i)) ∧ i < as.length ∧ j ≤ bs.length) (fun _ => bx) (fun _ => bs.toArray) (fun _ => e2) where
  src := fun i c ys v1 oI C oC D m₂ h tk Q E' hi hv hp hC hx F N' hq => src i v1 oI C oC D m₂ ys h tk Q E' (by simpa using hv) hC hx F N' hq
  go := fun i c ys hi hp => ⟨by simpa using hp.1, by simpa using hi, Nat.zero_le _⟩
  back := fun i c ys hi hp => ⟨by rw [flat_succ]; simpa using hp.1, hp.2.1⟩
  has := fun i j c ys _ => hb
  size := fun i j c ys hp => by
    have h1 := hp.1.length
    rw [List.length_append, flat_len, List.length_map, List.length_range] at h1
    have h2 : i * bs.length ≤ 100 * 100 := Nat.mul_le_mul (by omega) hm
    rw [h1, PySem.sizeLine_eq]; omega
  turn := fun i v1 j c ys v2 oI C D I2 oI2 oC m₂ h tk E' hi hv1 hv2 hp hC hx hy F N' off ne => by
    refine wpAny_tests_nil ?_
    simp only [if_true]
    have hv2' : bs[j]? = some v2 := by simpa using hv2
    refine wpAny_mono (turn i j v1 v2 oI C D I2 oI2 oC m₂ ys h tk E' (by simpa using hv1) hv2' hC hx hy F N') (fun z s₄ hz => ?_) fun _ _ e => e
    obtain ⟨t, h', tk', rfl, rfl, F', N''⟩ := hz
    refine ⟨(), h', tk', _, rfl, F', N'', fun p hp => hp, off, ?_, hp.2.1, ?_⟩
    · rw [List.range_succ, List.map_append, ← List.append_assoc]
      exact IntsAre.append hp.1 (.cons _ t .nil)
    · exact (List.getElem?_eq_some_iff.mp hv2').1
theorem src2_ints {N : List (Addr × Obj)} {ax bx : Addr} {as bs : List Value} {e1 e2 : Nat} {f : Nat → Nat → Int} {Fin : Shared → List Value → List (Addr × Obj) → Prop} {s₁ : Shared} (hh : A.handled = none) (F : Fr h₀ L s₁.heap m) (hN : News h₀ L s₁.heap N) (ha : (ax, listOf as.toArray e1) ∈ N) (hb : (bx, listOf bs.toArray e2) ∈ N) (hn : as.length ≤ 100) (hm : bs.length ≤ 100)
    (src : ∀ (g : Heap) (i : Nat) v1 I oI C oC D m₂ ys h tk (Q : Value → Shared → Prop) (E' : Value → Shared → Prop), as[i]? = some v1 → LCg.NsObj oC m₂ → m₂ x = some v1 → Fr h₀ L h m → News h₀ L h ((I, oI) :: (C, oC) :: (D, LCg.lst ys) :: N) →
      (∀ tk', Q (.ref bx) { { s₁ with heap := g } with heap := h, toks := tk' }) → wpAny (model prog w) A (eval it2 (compEnvC scope cl C env)) Q E' { { s₁ with heap := g } with heap := h, toks := tk })
    (turn : ∀ (g : Heap) (i j : Nat) v1 v2 I oI C D I2 oI2 oC m₂ ys h tk (E' : Value → Shared → Prop), as[i]? = some v1 → bs[j]? = some v2 → LCg.NsObj oC m₂ → m₂ x = some v1 → m₂ y = some v2 → Fr h₀ L h m → News h₀ L h ((I2, oI2) :: (I, oI) :: (C, oC) :: (D, LCg.lst ys) :: N) →
      wpAny (model prog w) A (eval elt (compEnvC scope cl C env)) (IntEnd (f i j) { s₁ with heap := g } h₀ L m ((I2, oI2) :: (I, oI) :: (C, oC) :: (D, LCg.lst ys) :: N)) E' { { s₁ with heap := g } with heap := h, toks := tk })
    (fin : ∀ g ys, IntsAre ys (flat f as.length bs.length) → Fin { s₁ with heap := g } ys N) :
    Src2 prog w A h₀ L m env elt it2 x y [] scope cl Fin (.ref ax) s₁ := by
  refine ⟨Unit, ax, as.toArray, e1, fun _ => N, _, _, _, _, _, (), rfl, hh, F, hN, fun _ _ _ _ => ha, ?_, fun s₂ I ⟨g, hg⟩ => hg ▸ turns_ints hb hn hm (fun i v1 oI C oC D m₂ ys h tk Q E' => src g i v1 I oI C oC D m₂ ys h tk Q E') (fun i j v1 v2 oI C D I2 oI2 oC m₂ ys h tk E' => turn g i j v1 v2 I oI C D I2 oI2 oC m₂ ys h tk E'), fun s₂ c ys ⟨g, hg⟩ hp => hg ▸ fin g ys (by simpa using hp.1)⟩
  exact ⟨by simpa [flat] using IntsAre.nil, Nat.zero_le _⟩
end
end Mine
end
section
theorem Mine.forget_Lw3n : True := by
  w_top off
  trivial
open PySem PySem.W PyProof.Rows PySem.Calls PySem.Spec
set_option maxRecDepth 100000
set_option maxHeartbeats 200000000
namespace Mine
local macro_rules | `(tactic| k_all) => `(tactic| first | assumption | exact allLt_ne (by assumption) (by omega))
local macro_rules | `(tactic| k_room) => `(tactic| ktr_room)
local macro_rules | `(tactic| k_units) => `(tactic| ktr_units)
local macro_rules | `(tactic| walk_at "call builtin:len") => `(tactic| ((rename News _ _ _ _ => nX); (rename IntsAre _ _ => iX); k_dflt (refine len_ints nX (by k_mem) iX (by omega) ?_); intro t' k'))
local macro_rules | `(tactic| walk_at "subscriptTail List cons Slice ref ref") => `(tactic| (k_dflt (refine' slice_tmp ?xF ?xN ?xl ?xi ?x0 ?_ ?xs ?xz; (case xF => k_asm); (case xN => k_asm); (case xl => kmk_list); (case xi => first | exact (.cons _ _ (.cons _ _ .nil)) | exact (.cons _ _ (.cons _ _ (.cons _ _ .nil)))); (case x0 => exact Int.natCast_nonneg _); (case xs => with_unfolding_all rfl); (case xz => kmk_size)); intro D2' ws2' h2' F2' N2' l2' hI2'; (try k_lt l2')))
local macro_rules | `(tactic| walk_at "subscriptTail Constant") => `(tactic| (refine Held.out ?_))
local macro_rules | `(tactic| walk_at "last subscriptTail") => `(tactic| (refine Held.out ?_))
local macro_rules | `(tactic| walk_at "exec Assign cons Subscript") => `(tactic| ((fail_if_success (rename HoldOff => hx)); refine Held.out ?_))
local macro_rules | `(tactic| walk_at "exec Assign cons ListComp") => `(tactic| ((fail_if_success (rename HoldOff => hx)); k_dflt (refine LCg.Assign_ListComp_U (F₀ := by k_asm) (by rfl) (by with_unfolding_all rfl) (by with_unfolding_all rfl) (by decide) (by rfl) (by decide) (by rfl) (by rfl) (by rfl) ?_)))
local macro_rules | `(tactic| walk_at "exec Assign cons ListComp") => `(tactic| ((rename HoldOff => ho); refine Held.out ?_))
local macro_rules | `(tactic| walk_at "eval ListComp") => `(tactic| ((rename HoldOff => ho); k_dflt (refine LCg.ListComp_U (F₀ := by k_asm) (by with_unfolding_all rfl) (by decide) (by rfl) (by decide) (by rfl) ?_)))
local macro_rules | `(tactic| walk_at "eval ListComp") => `(tactic| ((rename HoldOff => ho); (with_reducible show wpAny _ _ (eval (Expr.ListComp _ [_, _] _ _) _) _ _ _); refine Held.out ?_))
local macro_rules | `(tactic| walk_at "CompSrc") => `(tactic| ((rename HoldOff => ho); refine Held.out ?_))
local macro_rules | `(tactic| walk_at "CompEnd") => `(tactic| ((rename HoldOff => ho); refine Held.out ?_))
local macro_rules | `(tactic| walk_at "compareOp") => `(tactic| ((rename HoldOff => ho); refine Held.out ?_))
local macro_rules | `(tactic| walk_at "compareOp NotEq ref ref") => `(tactic| ((rename HoldOff => ho); refine Held.out ?_))
local macro_rules | `(tactic| walk_at "compareOp Eq ref ref") => `(tactic| ((rename HoldOff => ho); refine Held.out ?_))
local macro_rules | `(tactic| walk_at "call ref") => `(tactic| (refine Held.out ?_))
theorem law_pick {e0 e1 e2 e3 e4 e5 e6 e7 e8 e9 e10 e11 e12 e13 e14 e15 : Addr × Obj} : ∀ p ∈ [e0, e6, e12, e13, e14, e15], p ∈ [e0, e1, e2, e3, e4, e5, e6, e7, e8, e9, e10, e11, e12, e13, e14, e15] := mem_blk [[e0], [e1, e2, e3, e4, e5], [e6], [e7, e8, e9, e10, e11], [e12, e13, e14, e15]] [0, 2, 4] [0, 1, 2, 3, 4] (by decide)
theorem ints_two {ws : List Value} {a b : Int} (h : IntsAre ws [a, b]) : ∃ t u, ws = [.int a t, .int b u] := by
  cases h with
  | cons _ t h => cases h with
    | cons _ u h => cases h; exact ⟨t, u, rfl⟩
theorem draws_two (ns : List Int) : ∃ a b, (List.map (fun k' : Int => k'.fmod 72) (List.take 2 ns) ++ List.drop ((List.take 2 ns).length : Int).toNat [63, 10]) = [a, b] ∧ 0 ≤ a ∧ a < 72 ∧ 0 ≤ b ∧ b < 72 := by
  have m : ∀ x : Int, 0 ≤ x.fmod 72 ∧ x.fmod 72 < 72 := fun x => by rw [Int.fmod_eq_emod_of_nonneg _ (by decide)]; (first | lia | omega)
  match ns with
  | [] => exact ⟨63, 10, rfl, by decide, by decide, by decide, by decide⟩
  | [x] => exact ⟨x.fmod 72, 10, rfl, (m x).1, (m x).2, by decide, by decide⟩
  | x :: y :: r => exact ⟨x.fmod 72, y.fmod 72, by simp, (m x).1, (m x).2, (m y).1, (m y).2⟩
theorem deeds_some (ns : List Int) : ∃ ds, (List.map (fun k' : Int => k'.fmod 2) (List.take (min 6 ns.length - 2) (List.drop 2 ns) ++ List.drop ((List.take (min 6 ns.length - 2) (List.drop 2 ns)).length : Int).toNat [0, 0, 1])) = ds ∧ 3 ≤ ds.length ∧ ds.length ≤ 4 ∧ ∀ d ∈ ds, 0 ≤ d ∧ d ≤ 1 := by
  refine ⟨_, rfl, ?_, ?_, ?_⟩
  · simp; (first | lia | omega)
  · simp; (first | lia | omega)
  · intro d hd
    obtain ⟨x, _, rfl⟩ := List.mem_map.mp hd
    rw [Int.fmod_eq_emod_of_nonneg _ (by decide)]
    (first | lia | omega)
theorem draws_of {ws : List Value} {ns : List Int} (h : IntsAre ws (List.map (fun k' : Int => k'.fmod 72) (List.take 2 ns) ++ List.drop ((List.take 2 ns).length : Int).toNat [63, 10])) : ∃ a b t u, ws = [.int a t, .int b u] ∧ 0 ≤ a ∧ a < 72 ∧ 0 ≤ b ∧ b < 72 := by
  obtain ⟨a, b, e, r⟩ := draws_two ns
  rw [e] at h
  obtain ⟨t, u, e⟩ := ints_two h
  exact ⟨a, b, t, u, e, r⟩
theorem deeds_of {ws : List Value} {ns : List Int} (h : IntsAre ws (List.map (fun k' : Int => k'.fmod 2) (List.take (min 6 ns.length - 2) (List.drop 2 ns) ++ List.drop ((List.take (min 6 ns.length - 2) (List.drop 2 ns)).length : Int).toNat [0, 0, 1]))) : ∃ ds, IntsAre ws ds ∧ 3 ≤ ds.length ∧ ds.length ≤ 4 ∧ ∀ d ∈ ds, 0 ≤ d ∧ d ≤ 1 := by
  obtain ⟨ds, e, r⟩ := deeds_some ns
  rw [e] at h
  exact ⟨ds, h, r⟩
theorem item_tail {prog : Program} {w : World} {A : Around} {E : Value → Shared → Prop} {s : Shared} {value slice : PySem.Expr} {t u : Tok} {k d : Int} {Q : Value → Shared → Prop} (e : k = d / 24) (h0 : 0 ≤ d) (h1 : d < 72)
    (h : ∀ (c : Nat) t', (c = 97 ∨ c = 35 ∨ c = 34) → Q (.str ⟨#[c]⟩ t') { s with toks := s.toks + 1 })
    (hs : subscripted slice false (.str (Str.ofString "a#\"") t) (.int k u) = operate [.str (Str.ofString "a#\"") t, .int k u] (getItem (.str (Str.ofString "a#\"") t) (.int k u)) := by with_unfolding_all rfl)
    (ht : ∀ r, letTemporaryGo value (.str (Str.ofString "a#\"") t) r = pure () := by intro _; with_unfolding_all rfl) :
    wpAny (model prog w) A (subscriptTail value slice (.str (Str.ofString "a#\"") t) (.int k u)) Q E s := by
  have hl : (Str.ofString "a#\"").length = 3 := by decide +kernel
  have hlst : lst (Str.ofString "a#\"") = [97, 35, 34] := by decide +kernel
  refine item_str (fitsSsize_of (N := 9223372036854775808) (by (first | lia | omega)) (by (first | lia | omega)) (Int.le_refl _)) (by (first | lia | omega)) (by rw [hl]; (first | lia | omega)) (fun _ => ?_) hs ht
  rw [item_at (by (first | lia | omega)) (by rw [hl]; (first | lia | omega)), hlst]
  refine h _ _ ?_
  have hk : k = 0 ∨ k = 1 ∨ k = 2 := by (first | lia | omega)
  rcases hk with h | h | h <;> subst h <;> simp
theorem perm1 {a b c d e f g : Addr × Obj} {tl : List (Addr × Obj)} : ∀ p ∈ a :: b :: c :: d :: e :: f :: g :: tl, p ∈ a :: b :: (tl ++ [c, d, e, f, g]) := mem_blk [[a, b], [c, d, e, f, g], tl] [0, 1, 2] [0, 2, 1] (by decide)
theorem tups_cons {tl : List (Addr × Obj)} {us : List Value} {z : Int} {ds : List Int} {n : Nat} (h : Tups tl us (placesOf z ds (n + 1))) : ∃ a t u us', us = .ref a :: us' ∧ (a, tupO [.int (placeAt z ds 0).1 t, .int (placeAt z ds 0).2 u]) ∈ tl := by
  obtain ⟨h1, h2⟩ := h
  cases us with
  | nil => simp [placesOf] at h1
  | cons v us' =>
    have hq : (placesOf z ds (n + 1))[0]? = some (placeAt z ds 0) := by simp [placesOf]
    obtain ⟨a, t, u, e, hm⟩ := h2 0 v _ rfl hq
    exact ⟨a, t, u, us', by rw [e], hm⟩
theorem seq_ne_cell {h₀ h : Heap} {L c : Addr} {oc : Obj} {v : Option Value} {N tl : List (Addr × Obj)} (nX : News h₀ L h N) (hs : ∀ p ∈ tl, p ∈ N) (hm : (c, oc) ∈ N) (hd : oc.data = .cell v) (hq : ∀ p ∈ tl, ∃ xs n, p.2.data = .seq xs n) : ∀ p ∈ tl, p.1 ≠ c := by
  intro p hp e
  obtain ⟨xs, n, hx⟩ := hq p hp
  have h1 := (nX p (hs p hp)).1
  have h2 := (nX (c, oc) hm).1
  rw [e, h2] at h1
  have h3 := Option.some.inj h1
  rw [← h3, hd] at hx
  cases hx
theorem perm2 {a b c d e f g i j : Addr × Obj} {tl tl' : List (Addr × Obj)} : ∀ p ∈ a :: b :: c :: d :: e :: f :: g :: i :: j :: (tl ++ tl'), p ∈ a :: b :: (tl ++ c :: d :: e :: f :: g :: i :: j :: tl') := mem_blk [[a, b], [c, d, e, f, g, i, j], tl, tl'] [0, 1, 2, 3] [0, 2, 1, 3] (by decide)
theorem mem9 {a b c d e f g i j : Addr × Obj} {tl : List (Addr × Obj)} : ∀ p ∈ tl, p ∈ a :: b :: c :: d :: e :: f :: g :: i :: j :: tl := mem_blk [[a, b, c, d, e, f, g, i, j], tl] [1] [0, 1] (by decide)
theorem perm3 {D2 R D1 Dd Dr c3 c2 c1 P : Addr × Obj} {tl : List (Addr × Obj)} : ∀ p ∈ Dd :: ([P] ++ D2 :: R :: D1 :: Dr :: c3 :: c2 :: c1 :: tl), p ∈ D2 :: R :: D1 :: Dd :: Dr :: c3 :: c2 :: c1 :: P :: tl := mem_blk [[Dd], [P], [D2, R, D1], [Dr, c3, c2, c1], tl] [0, 1, 2, 3, 4] [2, 0, 3, 1, 4] (by decide)
theorem ne_tab {h₀ h : Heap} {L P : Addr} {ps : Array Value} {N : List (Addr × Obj)} (nX : News h₀ L h N) (hm : (P, tabObj ps) ∈ N) {p : Addr × Obj} (hp : p ∈ N) (hd : ∀ xs, p.2.data ≠ .fields xs) : p.1 ≠ P := by
  intro e
  have h1 := (nX p hp).1
  have h2 := (nX (P, tabObj ps) hm).1
  rw [e, h2] at h1
  have h3 := Option.some.inj h1
  exact hd ps (by rw [← h3])
theorem place_bd {z : Int} {ds : List Int} {k : Nat} (h0 : 0 ≤ z) (h1 : z < 72) (hk : k ≤ 9) (hd : ∀ d ∈ ds, 0 ≤ d ∧ d ≤ 1) : 0 ≤ (placeAt z ds k).1 ∧ (placeAt z ds k).1 ≤ 20 ∧ 0 ≤ (placeAt z ds k).2 ∧ (placeAt z ds k).2 ≤ 20 := by
  obtain ⟨s0, s1⟩ := take_sum hd k
  unfold placeAt
  dsimp only
  have hp : 0 < (2 : Int) ^ ((k : Int) - (ds.take k).sum).toNat := Int.pow_pos (by decide)
  refine ⟨by (first | lia | omega), by (first | lia | omega), Int.ediv_nonneg (by (first | lia | omega)) (by (first | lia | omega)), ?_⟩
  have : z / 3 % 8 / (2 : Int) ^ ((k : Int) - (ds.take k).sum).toNat ≤ z / 3 % 8 := Int.ediv_le_self _ (by (first | lia | omega))
  (first | lia | omega)
theorem perm4 {S Dd D2 R D1 Dr c3 c2 c1 : Addr × Obj} {tb tl : List (Addr × Obj)} : ∀ p ∈ S :: Dd :: D2 :: R :: D1 :: Dr :: c3 :: c2 :: c1 :: (tb ++ tl), p ∈ S :: Dd :: (tb ++ D2 :: R :: D1 :: Dr :: c3 :: c2 :: c1 :: tl) := mem_blk [[S, Dd], [D2, R, D1, Dr, c3, c2, c1], tb, tl] [0, 1, 2, 3] [0, 2, 1, 3] (by decide)
theorem perm5 {R2 S1 Dd D2 R D1 Dr c3 c2 c1 : Addr × Obj} {tb tl : List (Addr × Obj)} : ∀ p ∈ R2 :: (tb ++ S1 :: Dd :: D2 :: R :: D1 :: Dr :: c3 :: c2 :: c1 :: tl), p ∈ R2 :: S1 :: Dd :: D2 :: R :: D1 :: Dr :: c3 :: c2 :: c1 :: (tb ++ tl) := mem_blk [[R2], tb, [S1, Dd, D2, R, D1, Dr, c3, c2, c1], tl] [0, 1, 2, 3] [0, 2, 1, 3] (by decide)
theorem perm6 {S2 R2 S1 Dd D2 R D1 Dr c3 c2 c1 : Addr × Obj} {tb tl : List (Addr × Obj)} : ∀ p ∈ S2 :: S1 :: D2 :: D1 :: c3 :: c2 :: c1 :: (tb ++ tl), p ∈ S2 :: R2 :: (tb ++ S1 :: Dd :: D2 :: R :: D1 :: Dr :: c3 :: c2 :: c1 :: tl) := mem_blk [[S2], [S1], [D2], [D1], [c3, c2, c1], tb, tl, [R2], [Dd], [R], [Dr]] [0, 1, 2, 3, 4, 5, 6] [0, 7, 5, 1, 8, 2, 9, 3, 10, 4, 6] (by decide)
theorem mem7 {a b c d e f g : Addr × Obj} {tl : List (Addr × Obj)} : ∀ p ∈ tl, p ∈ a :: b :: c :: d :: e :: f :: g :: tl := mem_blk [[a, b, c, d, e, f, g], tl] [1] [0, 1] (by decide)
theorem places_at {z : Int} {ds : List Int} {n i : Nat} {q : Int × Int} (h : (placesOf z ds n)[i]? = some q) : q = placeAt z ds i ∧ i < n := by
  unfold placesOf at h
  rw [List.getElem?_map] at h
  rcases Nat.lt_or_ge i n with hi | hi
  · rw [List.getElem?_range hi] at h
    simp at h
    exact ⟨h.symm, hi⟩
  · rw [List.getElem?_eq_none (by simpa using hi)] at h
    simp at h
theorem wordL_mem {a b : Int} {c x : Nat} (h : x ∈ wordL a b [c]) : x = 46 ∨ x = 92 ∨ x = c := by
  unfold wordL at h
  rcases List.mem_append.mp h with h | h
  · exact .inl (List.eq_of_mem_replicate h)
  rcases List.mem_append.mp h with h | h
  · exact .inr (.inl (List.eq_of_mem_replicate h))
  · exact .inr (.inr (List.mem_singleton.mp h))
theorem words_ok {c : Nat} (hc : c = 97 ∨ c = 35 ∨ c = 34) (qs : List (Int × Int)) : ∀ y ∈ qs.map (wordS c), PyData.strOk y = true := by
  intro y hy
  obtain ⟨q, _, rfl⟩ := List.mem_map.mp hy
  unfold PyData.strOk wordS
  rw [Array.all_eq_true']
  intro x hx
  have := wordL_mem (List.mem_toArray.mp hx)
  simp
  (first | lia | omega)
theorem strs_at {ys : List Str} : ∀ {vs : List Value} {i : Nat} {v : Value}, StrsAre vs ys → vs[i]? = some v → ∃ y t, ys[i]? = some y ∧ v = .str y t := by
  intro vs i v h
  induction h generalizing i with
  | nil => intro e; simp at e
  | cons y t r ih =>
    intro e
    cases i with
    | zero => simp at e; exact ⟨y, t, by simp, e.symm⟩
    | succ i => simp at e; obtain ⟨y', t', h1, h2⟩ := ih e; exact ⟨y', t', by simpa using h1, h2⟩
theorem word_at {vs : List Value} {z : Int} {ds : List Int} {n c i : Nat} {v : Value} (h : StrsAre vs ((placesOf z ds n).map (wordS c))) (hv : vs[i]? = some v) : ∃ t, v = .str (wordS c (placeAt z ds i)) t ∧ i < n := by
  obtain ⟨y, t, h1, rfl⟩ := strs_at h hv
  rw [List.getElem?_map] at h1
  cases hq : (placesOf z ds n)[i]? with
  | none => rw [hq] at h1; simp at h1
  | some q =>
    rw [hq] at h1
    simp at h1
    obtain ⟨rfl, hi⟩ := places_at hq
    exact ⟨t, by rw [h1], hi⟩
def stepsZ (p q : Int × Int) : Int := max (max ((p.1 - q.1).natAbs : Int) ((p.2 - q.2).natAbs : Int)) (((p.1 - q.1) + (p.2 - q.2)).natAbs : Int)
theorem natAbs_bd {x : Int} {n : Nat} (h1 : -(n : Int) ≤ x) (h2 : x ≤ n) : (x.natAbs : Int) ≤ n := by (first | lia | omega)
theorem steps_bd {p q : Int × Int} (h1 : 0 ≤ p.1) (h2 : p.1 ≤ 20) (h3 : 0 ≤ p.2) (h4 : p.2 ≤ 20) (h5 : 0 ≤ q.1) (h6 : q.1 ≤ 20) (h7 : 0 ≤ q.2) (h8 : q.2 ≤ 20) : 0 ≤ stepsZ p q ∧ stepsZ p q ≤ 40 := by
  unfold stepsZ
  have a1 : ((p.1 - q.1).natAbs : Int) ≤ (40 : Nat) := natAbs_bd (by (first | lia | omega)) (by (first | lia | omega))
  have a2 : ((p.2 - q.2).natAbs : Int) ≤ (40 : Nat) := natAbs_bd (by (first | lia | omega)) (by (first | lia | omega))
  have a3 : (((p.1 - q.1) + (p.2 - q.2)).natAbs : Int) ≤ (40 : Nat) := natAbs_bd (by (first | lia | omega)) (by (first | lia | omega))
  exact ⟨Int.le_trans (Int.natCast_nonneg _) (Int.le_max_right _ _), Int.max_le.mpr ⟨Int.max_le.mpr ⟨a1, a2⟩, a3⟩⟩
theorem lev_words {p q : Int × Int} {c : Nat} (hc : c = 97 ∨ c = 35 ∨ c = 34) (h1 : 0 ≤ p.1) (h3 : 0 ≤ p.2) (h5 : 0 ≤ q.1) (h7 : 0 ≤ q.2) : (lev (lst (wordS c p)) (lst (wordS c q)) : Int) = 2 * stepsZ p q := by
  unfold wordS stepsZ
  rw [lst_mk, lst_mk]
  exact lev_wordL h1 h3 h5 h7
theorem tups_at {tl : List (Addr × Obj)} {us : List Value} {z : Int} {ds : List Int} {n i : Nat} {v : Value} (h : Tups tl us (placesOf z ds n)) (hv : us[i]? = some v) : ∃ a t u, v = .ref a ∧ i < n ∧ (a, tupO [.int (placeAt z ds i).1 t, .int (placeAt z ds i).2 u]) ∈ tl := by
  have hil : i < us.length := (List.getElem?_eq_some_iff.mp hv).1
  rw [h.1] at hil
  obtain ⟨a, t, u, e, hm⟩ := h.2 i v _ hv (List.getElem?_eq_getElem hil)
  have hq := places_at (List.getElem?_eq_getElem hil)
  rw [hq.1] at hm
  exact ⟨a, t, u, e, hq.2, hm⟩
theorem law3 : PySem.Challenge.rw_pe0114_03.Holds := hd (by
  k_go0
  all_goals (try k_fold)
  rename_i ww sh0 sh1 mg mb G Y fa oo pm cd doc ho' hcd hg X V T B TE TW ns hs hlay0 hL1 hr1 hl2 w7 w6 scr svs w3 hL ra w1 r0 hI hr hc1 hc2 hDf h1_ tk1_ o3 o2 o1 ho3 ho2 ho1 X0 X1 T1 K1 F1 N1 l0
  k_steps

  refine Held.put ?_
  rename_i hI8 hL8 Dd hD tkD FD ND oD
  rename IntsAre _ (List.map _ (List.take 2 _) ++ _) => hIr
  obtain ⟨d0, d1, t0, t1, rfl, h00, h01, h10, h11⟩ := draws_of hIr
  obtain ⟨ds, hds, hl3, hl4, hd01⟩ := deeds_of hI8
  have N9 : News _ _ _ _ := fun p hp => ND p (law_pick p hp)
  clear ND hIr hI8 hL8
  have ho : HoldOff := ⟨⟩
  k_steps
  refine Held.put ?_
  refine item_tail (d := d0) (Int.fdiv_eq_ediv_of_nonneg _ (by decide)) h00 h01 ?_
  intro c tc hc
  k_steps
  refine Held.put ?_
  rename_i o1n F1 N1 d1' t1'
  k_dflt (refine' ctr_use (places_ctr _ _ _ _ _ _ (fun h => CodeHd h 117 113) _ Dd ys ds _ d0 _) codeHd ?k1 ?k2 ?k3 ?k4 ?k5 ?kK ?kp ?kd ?ku ?_; (case k1 => k_asm); (case k2 => k_asm); (case k3 => k_asm); (case k4 => k_asm); (case k5 => k_asm); (case kK => first | exact rfl | assumption); (case kd => ktr_room); (case ku => ktr_units))
  case kp => exact ⟨h00, h01, hds, by omega, hd01⟩
  intro v3 nw3 h3 tk3 hr3 F3 N3
  obtain ⟨D1, us1, e1, tl1, rfl, hT1, rfl, hnD1, hlD1, hQ1⟩ := hr3
  clear F1 N1
  have N4 : News _ _ _ _ := fun p hp => N3 p (perm1 p hp)
  clear N3
  k_steps
  refine Held.put ?_
  rename_i R wsR hR FR NR hIR hCR lR
  k_dflt (refine' ctr_use (places_ctr _ _ _ _ _ _ (fun h => CodeHd h 117 113) _ R wsR ds.reverse _ d1 _) codeHd ?k1 ?k2 ?k3 ?k4 ?k5 ?kK ?kp ?kd ?ku ?_; (case k1 => k_asm); (case k2 => k_asm); (case k3 => k_asm); (case k4 => k_asm); (case k5 => k_asm); (case kK => first | exact rfl | assumption); (case kd => ktr_room); (case ku => ktr_units))
  case kp => exact ⟨h10, h11, hIR, by rw [List.length_reverse]; omega, fun d hd => hd01 d (List.mem_reverse.mp hd)⟩
  intro v5 nw5 h5 tk5 hr5 F5 N5
  obtain ⟨D2, us2, e2, tl2, rfl, hT2, rfl, hnD2, hlD2, hQ2⟩ := hr5
  clear FR NR
  have N6 : News _ _ _ _ := fun p hp => N5 p (perm2 p hp)
  clear N5
  obtain ⟨a1, ta1, tb1, us1', rfl, hm1⟩ := tups_cons hT1
  obtain ⟨a2, ta2, tb2, us2', rfl, hm2⟩ := tups_cons hT2
  have hB : ∀ p ∈ tl2 ++ tl1, p.1 ≠ sh1.heap.objs.size + 1 + 1 := seq_ne_cell N6 mem9 (by k_mem) ho2 (fun p hp => (List.mem_append.mp hp).elim (hQ2 p) (hQ1 p))
  have hD1B : @Ne Nat D1 (sh1.heap.objs.size + 1 + 1) := Ne.symm (hnD1 (sh1.heap.objs.size + 1 + 1, o2) (by simp))
  have q1 : @Ne Nat D2 (sh1.heap.objs.size + 1 + 1) := by omega
  have q2 : @Ne Nat R (sh1.heap.objs.size + 1 + 1) := by omega
  have q3 : @Ne Nat Dd (sh1.heap.objs.size + 1 + 1) := by omega
  k_steps
  refine Held.put ?_
  (rename News _ _ _ _ => nX)
  k_dflt (refine' ctr_use (word_ctr _ _ _ _ _ _ (fun h => CodeHd h 117 113) _ a1 (placeAt d0 ds 0).1 (placeAt d0 ds 0).2 ta1 tb1 _ _) codeHd ?k1 ?k2 ?k3 ?k4 ?k5 ?kK ?kp ?kd ?ku ?_; (case k1 => k_asm); (case k2 => k_asm); (case k3 => k_asm); (case k4 => exact nX); (case k5 => k_asm); (case kK => first | exact rfl | assumption); (case kd => ktr_room); (case ku => ktr_units))
  case kp =>
    have hb := place_bd (k := 0) h00 h01 (by decide) hd01
    exact ⟨mem9 _ (List.mem_append_right _ hm1), hb.1, by omega, hb.2.2.1, by omega, by show 1 ≤ 100; decide⟩
  intro v6 nw6 h6 tk6 hr6 F6 N6
  obtain ⟨⟨t6, hv6⟩, rfl⟩ := hr6
  replace hv6 : v6 = .str (wordS c (placeAt d0 ds 0)) t6 := hv6
  subst hv6
  clear nX
  k_steps
  refine Held.put ?_
  (rename News _ _ _ _ => nX)
  rename (Obj.data _ = Data.cell (some (Value.ref D2))) => hd2
  have N7 : News _ _ _ _ := fun p hp => nX p (perm3 p hp)
  have hws : isWs c = false ∧ c ≠ 92 := by rcases hc with rfl | rfl | rfl <;> decide
  k_dflt (refine' ctr_use (states_ctr _ _ _ _ _ _ _ c Dd ys ds _ d0 none _) codeHd ?k1 ?k2 ?k3 N7 ?k5 ?kK ?kp ?kd ?ku ?_; (case k1 => k_asm); (case k2 => k_asm); (case k3 => k_asm); (case k5 => k_asm); (case kK => first | exact rfl | assumption); (case kd => ktr_room); (case ku => ktr_units))
  case kp =>
    refine ⟨h00, h01, hds, by omega, hd01, hws.1, hws.2, trivial, ?_⟩
    intro p hp
    refine ne_tab N7 (.tail _ (.head _)) (p := p) ?_ ?_
    · rcases List.mem_cons.mp hp with h | h
      · rw [h]; exact .head _
      · exact .tail _ (.tail _ h)
    · intro xs e
      simp only [List.mem_cons] at hp
      rcases hp with rfl | rfl | rfl | rfl | rfl | rfl | rfl | rfl | hp
      · cases e
      · cases e
      · cases e
      · cases e
      · cases e
      · rw [ho3] at e; cases e
      · rw [hd2] at e; cases e
      · rw [d1'] at e; cases e
      · obtain ⟨_, _, h⟩ := (List.mem_append.mp hp).elim (hQ2 p) (hQ1 p)
        rw [h] at e; cases e
  intro v8 nw8 h8 tk8 hr8 F8 N8
  obtain ⟨S1, vs1, e8, T8, rfl, hU1, hT8k, rfl, hlS1, hNw1, hnS1⟩ := hr8
  clear nX N7
  have N9 : News _ _ _ _ := fun p hp => N8 p (perm4 p hp)
  clear N8
  obtain ⟨rest1, hrest1⟩ := ex_eq (tabLed 107 111 113 T8 ++ (tl2 ++ tl1))
  rw [hrest1] at N9
  k_steps
  refine Held.put ?_
  (rename News _ _ _ _ => nX)
  k_dflt (refine' ctr_use (word_ctr _ _ _ _ _ _ (fun h => CodeHd h 117 113) _ a2 (placeAt d1 ds.reverse 0).1 (placeAt d1 ds.reverse 0).2 ta2 tb2 _ _) codeHd ?k1 ?k2 ?k3 ?k4 ?k5 ?kK ?kp ?kd ?ku ?_; (case k1 => k_asm); (case k2 => k_asm); (case k3 => k_asm); (case k4 => exact nX); (case k5 => k_asm); (case kK => first | exact rfl | assumption); (case kd => ktr_room); (case ku => ktr_units))
  case kp =>
    have hb := place_bd (k := 0) h10 h11 (by decide) (fun d hd => hd01 d (List.mem_reverse.mp hd))
    exact ⟨mem9 _ (by rw [← hrest1]; exact List.mem_append_right _ (List.mem_append_left _ hm2)), hb.1, by omega, hb.2.2.1, by omega, by show 1 ≤ 100; decide⟩
  intro v6 nw6 h6 tk6 hr6 F6 N6
  obtain ⟨⟨t6b, hv6⟩, rfl⟩ := hr6
  replace hv6 : v6 = .str (wordS c (placeAt d1 ds.reverse 0)) t6b := hv6
  subst hv6
  clear nX
  k_steps
  refine Held.put ?_
  rename_i R2 wsR2 hR2 FR2 NR2 hIR2 hCR2 lR2
  rw [← hrest1] at NR2
  have N7 : News _ _ _ _ := fun p hp => NR2 p (perm5 p hp)
  k_dflt (refine' ctr_use (states_ctr _ _ _ _ _ _ _ c R2 wsR2 ds.reverse _ d1 T8 _) codeHd ?k1 ?k2 ?k3 N7 ?k5 ?kK ?kp ?kd ?ku ?_; (case k1 => k_asm); (case k2 => k_asm); (case k3 => k_asm); (case k5 => k_asm); (case kK => first | exact rfl | assumption); (case kd => ktr_room); (case ku => ktr_units))
  case kp =>
    refine ⟨h10, h11, hIR2, by rw [List.length_reverse]; omega, fun d hd => hd01 d (List.mem_reverse.mp hd), hws.1, hws.2, hT8k, ?_⟩
    intro p hp
    obtain ⟨ps, hps⟩ : ∃ ps, (113, tabObj ps) ∈ tabLed 107 111 113 T8 := by
      cases T8 with
      | none => exact ⟨_, .head _⟩
      | some y => exact ⟨_, .head _⟩
    refine ne_tab N7 (ps := ps) (.tail _ (List.mem_append_left _ hps)) (p := p) ?_ ?_
    · rcases List.mem_cons.mp hp with h | h
      · rw [h]; exact .head _
      · exact .tail _ (List.mem_append_right _ h)
    · intro xs e
      simp only [List.mem_cons] at hp
      rcases hp with rfl | rfl | rfl | rfl | rfl | rfl | rfl | rfl | rfl | rfl | hp
      · cases e
      · cases e
      · cases e
      · cases e
      · cases e
      · cases e
      · cases e
      · rw [ho3] at e; cases e
      · rw [hd2] at e; cases e
      · rw [d1'] at e; cases e
      · obtain ⟨_, _, h⟩ := (List.mem_append.mp hp).elim (hQ2 p) (hQ1 p)
        rw [h] at e; cases e
  intro v9 nw9 h9 tk9 hr9 F9 N9b
  obtain ⟨S2, vs2, e9, T9, rfl, hU2, hT9k, rfl, hlS2, hNw2, hnS2⟩ := hr9
  clear NR2 N7
  have N10 : News _ _ _ _ := fun p hp => N9b p (perm6 p hp)
  clear N9b
  have hc3 : ∀ p ∈ tabLed 107 111 113 T9 ++ (tl2 ++ tl1), p.1 ≠ sh1.heap.objs.size + 1 + 1 + 1 := by
    intro p hp
    have h113 : @Ne Nat 113 (sh1.heap.objs.size + 1 + 1 + 1) := by omega
    rcases List.mem_append.mp hp with h | h
    · cases hT9 : T9 with
      | none =>
        rw [hT9] at h
        rcases List.mem_cons.mp h with rfl | h
        · exact h113
        · cases h
      | some y =>
        have hy : @LT.lt Nat _ (sh1.heap.objs.size + 1 + 1 + 1) y.c1 ∧ @LT.lt Nat _ (sh1.heap.objs.size + 1 + 1 + 1) y.c2 := by
          rcases hNw2 y hT9 with h1 | ⟨y0, h1, e1, e2⟩
          · exact h1 (sh1.heap.objs.size + 1 + 1 + 1, o3) (by simp)
          · rcases hNw1 y0 h1 with h2 | ⟨_, h2, _⟩
            · have := h2 (sh1.heap.objs.size + 1 + 1 + 1, o3) (by simp)
              rw [e1, e2] at this; exact this
            · cases h2
        rw [hT9] at h
        rcases List.mem_cons.mp h with rfl | h
        · exact h113
        rcases List.mem_cons.mp h with rfl | h
        · exact Ne.symm (Nat.ne_of_lt hy.1)
        rcases List.mem_cons.mp h with rfl | h
        · exact Ne.symm (Nat.ne_of_lt hy.2)
        · cases h
    · exact seq_ne_cell (tl := tl2 ++ tl1) N10 (fun p hp => mem7 _ (List.mem_append_right _ hp)) (by k_mem) ho3 (fun p hp => (List.mem_append.mp hp).elim (hQ2 p) (hQ1 p)) p h
  obtain ⟨rest2, hrest2⟩ := ex_eq (tabLed 107 111 113 T9 ++ (tl2 ++ tl1))
  rw [hrest2] at N10 hc3
  have q4 : @Ne Nat S2 (sh1.heap.objs.size + 1 + 1 + 1) := Ne.symm (hnS2 (sh1.heap.objs.size + 1 + 1 + 1, o3) (by simp))
  have q5 : @Ne Nat S1 (sh1.heap.objs.size + 1 + 1 + 1) := Ne.symm (hnS1 (sh1.heap.objs.size + 1 + 1 + 1, o3) (by simp))
  have q6 : @Ne Nat D1 (sh1.heap.objs.size + 1 + 1 + 1) := Ne.symm (hnD1 (sh1.heap.objs.size + 1 + 1 + 1, o3) (by simp))
  have q7 : @Ne Nat D2 (sh1.heap.objs.size + 1 + 1 + 1) := Ne.symm (hnD2 (sh1.heap.objs.size + 1 + 1 + 1, o3) (by simp))
  have q8 : @Ne Nat S1 S2 := hnS2 (S1, _) (List.mem_append_right _ (.head _))
  k_steps
  refine Held.put ?_
  (rename News _ _ _ _ => nX); (rename Fr _ _ _ _ => fX)
  have hlen1 : (Value.ref a1 :: us1').toArray.size ≤ 10 := by rw [List.size_toArray, hT1.1]; simp [placesOf]; omega
  refine LCg.CompSrc.ledger rfl fX nX (by k_mem) (Nat.le_trans hlen1 (by rw [PySem.sizeLine_eq]; decide)) fun g1 => ?_
  refine comp_all (σ := Unit) (fun _ => _) (fun i _ ys => StrsAre ys (((placesOf d0 ds ((ds).length + 1)).map (wordS c)).take i)) () .nil ?turn1 ?fin1
  case turn1 =>
    intro i u0 ys v I oI C oC D m₂ h tk E' hi hP hv hC hx F' N' off ne
    have hv' : (Value.ref a1 :: us1')[i]? = some v := by simpa using hv
    obtain ⟨q, hq⟩ : ∃ q, (placesOf d0 ds ((ds).length + 1))[i]? = some q := by
      have hil : i < (placesOf d0 ds ((ds).length + 1)).length := by rw [← hT1.1]; simpa using hi
      exact ⟨_, List.getElem?_eq_getElem hil⟩
    obtain ⟨a, ta, tb, rfl, hm⟩ := hT1.2 i v q hv' hq
    have hqv := places_at hq
    have hb := place_bd (z := d0) (ds := ds) (k := i) h00 h01 (by have := hqv.2; (try rw [List.length_reverse] at this); omega) hd01
    rw [← hqv.1] at hb
    clear nX fX
    k_steps
    refine Held.put ?_
    (rename News _ _ _ _ => nX)
    k_dflt (refine' ctr_use (word_ctr _ _ _ _ _ _ (fun h => CodeHd h 117 113) _ a q.1 q.2 ta tb _ _) codeHd ?k1 ?k2 ?k3 ?k4 ?k5 ?kK ?kp ?kd ?ku ?_; (case k1 => k_asm); (case k2 => k_asm); (case k3 => k_asm); (case k4 => exact nX); (case k5 => k_asm); (case kK => first | exact rfl | assumption); (case kd => ktr_room); (case ku => ktr_units))
    case kp => exact ⟨.tail _ (.tail _ (.tail _ (mem7 _ (by rw [← hrest2]; exact List.mem_append_right _ (List.mem_append_right _ hm))))), hb.1, by omega, hb.2.2.1, by omega, by show 1 ≤ 100; decide⟩
    intro v6 nw6 h6 tk6 hr6 F6 N6
    obtain ⟨⟨t6c, hv6⟩, rfl⟩ := hr6
    replace hv6 : v6 = .str (wordS c q) t6c := hv6
    subst hv6
    clear nX
    k_steps
    refine Held.put ?_
    refine LCg.CompEnd.intro F6 N6 _ (fun p hp => hp) off (.inr ⟨_, by k_mem, rfl, _, rfl⟩) ⟨(), rfl, ?_⟩
    rw [List.take_add_one, List.getElem?_map, hq]
    exact strs_snoc hP
  case fin1 =>
  intro u0 ys hP
  clear nX fX
  k_steps
  refine Held.put ?_
  have hP' : StrsAre ys ((placesOf d0 ds ((ds).length + 1)).map (wordS c)) := by
    have e : List.take (Value.ref a1 :: us1').toArray.size ((placesOf d0 ds ((ds).length + 1)).map (wordS c)) = (placesOf d0 ds ((ds).length + 1)).map (wordS c) := by
      rw [List.take_of_length_le]; rw [List.length_map, ← hT1.1, List.size_toArray]; exact Nat.le_refl _
    rw [e] at hP; exact hP
  (rename News _ _ _ _ => nX)
  refine (strs_same nX (by k_mem) (by k_mem) hU1 hP' (words_ok hc _) (by ke_room)).1 _ ?_
  have nY : News _ _ _ _ := fun p hp => nX p (.tail _ hp)
  clear nX hP hP'
  k_steps
  refine Held.put ?_
  (rename News _ _ _ _ => nX); (rename Fr _ _ _ _ => fX)
  have hlen2 : (Value.ref a2 :: us2').toArray.size ≤ 10 := by rw [List.size_toArray, hT2.1]; simp [placesOf]; omega
  refine LCg.CompSrc.ledger rfl fX nX (by k_mem) (Nat.le_trans hlen2 (by rw [PySem.sizeLine_eq]; decide)) fun g2 => ?_
  refine comp_all (σ := Unit) (fun _ => _) (fun i _ ys => StrsAre ys (((placesOf d1 ds.reverse ((ds.reverse).length + 1)).map (wordS c)).take i)) () .nil ?turn2 ?fin2
  case turn2 =>
    intro i u0 ys v I oI C oC D m₂ h tk E' hi hP hv hC hx F' N' off ne
    have hv' : (Value.ref a2 :: us2')[i]? = some v := by simpa using hv
    obtain ⟨q, hq⟩ : ∃ q, (placesOf d1 ds.reverse ((ds.reverse).length + 1))[i]? = some q := by
      have hil : i < (placesOf d1 ds.reverse ((ds.reverse).length + 1)).length := by rw [← hT2.1]; simpa using hi
      exact ⟨_, List.getElem?_eq_getElem hil⟩
    obtain ⟨a, ta, tb, rfl, hm⟩ := hT2.2 i v q hv' hq
    have hqv := places_at hq
    have hb := place_bd (z := d1) (ds := ds.reverse) (k := i) h10 h11 (by have := hqv.2; (try rw [List.length_reverse] at this); omega) (fun d hd => hd01 d (List.mem_reverse.mp hd))
    rw [← hqv.1] at hb
    clear nX fX
    k_steps
    refine Held.put ?_
    (rename News _ _ _ _ => nX)
    k_dflt (refine' ctr_use (word_ctr _ _ _ _ _ _ (fun h => CodeHd h 117 113) _ a q.1 q.2 ta tb _ _) codeHd ?k1 ?k2 ?k3 ?k4 ?k5 ?kK ?kp ?kd ?ku ?_; (case k1 => k_asm); (case k2 => k_asm); (case k3 => k_asm); (case k4 => exact nX); (case k5 => k_asm); (case kK => first | exact rfl | assumption); (case kd => ktr_room); (case ku => ktr_units))
    case kp => exact ⟨.tail _ (.tail _ (.tail _ (mem7 _ (by rw [← hrest2]; exact List.mem_append_right _ (List.mem_append_left _ hm))))), hb.1, by omega, hb.2.2.1, by omega, by show 1 ≤ 100; decide⟩
    intro v6 nw6 h6 tk6 hr6 F6 N6
    obtain ⟨⟨t6c, hv6⟩, rfl⟩ := hr6
    replace hv6 : v6 = .str (wordS c q) t6c := hv6
    subst hv6
    clear nX
    k_steps
    refine Held.put ?_
    refine LCg.CompEnd.intro F6 N6 _ (fun p hp => hp) off (.inr ⟨_, by k_mem, rfl, _, rfl⟩) ⟨(), rfl, ?_⟩
    rw [List.take_add_one, List.getElem?_map, hq]
    exact strs_snoc hP
  case fin2 =>
  intro u0 ys hP
  clear nX fX
  k_steps
  refine Held.put ?_
  have hP' : StrsAre ys ((placesOf d1 ds.reverse ((ds.reverse).length + 1)).map (wordS c)) := by
    have e : List.take (Value.ref a2 :: us2').toArray.size ((placesOf d1 ds.reverse ((ds.reverse).length + 1)).map (wordS c)) = (placesOf d1 ds.reverse ((ds.reverse).length + 1)).map (wordS c) := by
      rw [List.take_of_length_le]; rw [List.length_map, ← hT2.1, List.size_toArray]; exact Nat.le_refl _
    rw [e] at hP; exact hP
  (rename News _ _ _ _ => nX)
  refine (strs_same nX (by k_mem) (by k_mem) hU2 hP' (words_ok hc _) (by ke_room)).1 _ ?_
  have nY : News _ _ _ _ := fun p hp => nX p (.tail _ hp)
  clear nX hP hP'
  k_steps
  refine Held.put ?_
  k_dflt (refine' assign_comp2 (F₀ := by k_asm) ?xL ?xs ?xc ?xd ?xk ?xn ?xx ?xy ?xne ?xf ?xz ?xp ?_; (case xL => rfl); (case xs => with_unfolding_all rfl); (case xc => with_unfolding_all rfl); (case xd => decide); (case xk => rfl); (case xn => decide); (case xx => rfl); (case xy => rfl); (case xne => decide); (case xf => (intro _ _; rfl)); (case xz => rfl); (case xp => rfl))
  k_steps
  (rename News _ _ _ _ => nX); (rename Fr _ _ _ _ => fX)
  have hlA : vs1.length = ds.length + 1 := by rw [strs_len hU1, List.length_map]; simp [placesOf]
  have hlB : vs2.length = ds.length + 1 := by rw [strs_len hU2, List.length_map]; simp [placesOf]
  refine src2_ints (as := vs1) (bs := vs2) (f := fun i j => 2 * stepsZ (placeAt d0 ds i) (placeAt d1 ds.reverse j)) rfl fX nX (by k_mem) (by k_mem) (by omega) (by omega) ?src3 ?turn3 ?fin3
  case src3 =>
    intro g i v1 I oI C oC D m₂ ys h tk Q E' hv hC hx F' N' hq
    clear nX fX
    k_steps
    exact hq _
  case turn3 =>
    intro g i j v1 v2 I oI C D I2 oI2 oC m₂ ys h tk E' hv1 hv2 hC hx hy F' N'
    obtain ⟨tw1, rfl, hi⟩ := word_at hU1 hv1
    obtain ⟨tw2, rfl, hj⟩ := word_at hU2 hv2
    rw [List.length_reverse] at hj
    have hbA := place_bd (z := d0) (ds := ds) (k := i) h00 h01 (by omega) hd01
    have hbB := place_bd (z := d1) (ds := ds.reverse) (k := j) h10 h11 (by omega) (fun d hd => hd01 d (List.mem_reverse.mp hd))
    have hbS := steps_bd hbA.1 hbA.2.1 hbA.2.2.1 hbA.2.2.2 hbB.1 hbB.2.1 hbB.2.2.1 hbB.2.2.2
    have hw1 := word_len c d0 ds i h00 h01 (by omega) hd01
    have hw2 := word_len c d1 ds.reverse j h10 h11 (by omega) (fun d hd => hd01 d (List.mem_reverse.mp hd))
    clear nX fX
    k_steps
    refine Held.put ?_
    (rename News _ _ _ _ => nX)
    k_dflt (refine' ctr_use (lev_ctr _ _ _ _ _ _ (fun h => CodeHd h 117 113) _ _ _ 99 _ _ _) codeHd ?k1 ?k2 ?k3 ?k4 ?k5 ?kK ?kp ?kd ?ku ?_; (case k1 => k_asm); (case k2 => k_asm); (case k3 => k_asm); (case k4 => exact nX); (case k5 => k_asm); (case kK => first | exact rfl | assumption); (case kd => ktr_room); (case ku => ktr_units))
    case kp => exact ⟨hw1, hw2, by decide, by decide⟩
    intro v6 nw6 h6 tk6 hr6 F6 N6
    obtain ⟨⟨r, t, rfl, hok⟩, rfl⟩ := hr6
    have hlv := lev_words (c := c) hc hbA.1 hbA.2.2.1 hbB.1 hbB.2.2.1
    have hre : r = 2 * stepsZ (placeAt d0 ds i) (placeAt d1 ds.reverse j) := by
      rcases hok with h | h
      · rw [← h]; exact hlv
      · rw [hlv] at h; omega
    subst hre
    exact IntEnd.made rfl F6 N6
  case fin3 =>
  intro g ys hI
  have hIk : ∀ _ : Unit, IntsAre ys _ := fun _ => hI
  clear nX fX
  k_steps
  refine Held.put ?_
  k_dflt (refine' list_comp2 (F₀ := by k_asm) ?xc ?xd ?xk ?xn ?xx ?xy ?xne ?xf ?_; (case xc => with_unfolding_all rfl); (case xd => decide); (case xk => rfl); (case xn => decide); (case xx => rfl); (case xy => rfl); (case xne => decide); (case xf => (intro _ _; rfl)))
  k_steps
  (rename News _ _ _ _ => nX); (rename Fr _ _ _ _ => fX)
  have hlA2 : (Value.ref a1 :: us1').length = ds.length + 1 := by rw [hT1.1]; simp [placesOf]
  have hlB2 : (Value.ref a2 :: us2').length = ds.length + 1 := by rw [hT2.1]; simp [placesOf]
  refine src2_ints (as := Value.ref a1 :: us1') (bs := Value.ref a2 :: us2') (f := fun i j => 2 * stepsZ (placeAt d0 ds i) (placeAt d1 ds.reverse j)) rfl fX nX (by k_mem) (by k_mem) (by omega) (by omega) ?src4 ?turn4 ?fin4
  case src4 =>
    intro g i v1 I oI C oC D m₂ ys h tk Q E' hv hC hx F' N' hq
    clear nX fX
    k_steps
    exact hq _
  case turn4 =>
    intro g i j v1 v2 I oI C D I2 oI2 oC m₂ ys h tk E' hv1 hv2 hC hx hy F' N'
    obtain ⟨p1, tp1, tp2, rfl, hi, hmp⟩ := tups_at hT1 hv1
    obtain ⟨p2, tq1, tq2, rfl, hj, hmq⟩ := tups_at hT2 hv2
    rw [List.length_reverse] at hj
    have hbA := place_bd (z := d0) (ds := ds) (k := i) h00 h01 (by omega) hd01
    have hbB := place_bd (z := d1) (ds := ds.reverse) (k := j) h10 h11 (by omega) (fun d hd => hd01 d (List.mem_reverse.mp hd))
    have hbS := steps_bd hbA.1 hbA.2.1 hbA.2.2.1 hbA.2.2.2 hbB.1 hbB.2.1 hbB.2.2.1 hbB.2.2.2
    clear nX fX
    k_steps
    refine Held.put ?_
    (rename News _ _ _ _ => nX)
    have hm1 := nX
    k_dflt (refine' ctr_use (steps_ctr _ _ _ _ _ _ (fun h => CodeHd h 117 113) _ p1 p2 (placeAt d0 ds i).1 (placeAt d0 ds i).2 (placeAt d1 ds.reverse j).1 (placeAt d1 ds.reverse j).2 tp1 tp2 tq1 tq2) codeHd ?k1 ?k2 ?k3 ?k4 ?k5 ?kK ?kp ?kd ?ku ?_; (case k1 => k_asm); (case k2 => k_asm); (case k3 => k_asm); (case k4 => exact nX); (case k5 => k_asm); (case kK => first | exact rfl | assumption); (case kd => ktr_room); (case ku => ktr_units))
    case kp => exact ⟨by refine .tail _ (.tail _ (.tail _ (.tail _ (.tail _ (mem7 _ ?_))))); rw [← hrest2]; exact List.mem_append_right _ (List.mem_append_right _ hmp), by refine .tail _ (.tail _ (.tail _ (.tail _ (.tail _ (mem7 _ ?_))))); rw [← hrest2]; exact List.mem_append_right _ (List.mem_append_left _ hmq), hbA.1, by omega, hbA.2.2.1, by omega, hbB.1, by omega, hbB.2.2.1, by omega⟩
    intro v6 nw6 h6 tk6 hr6 F6 N6
    obtain ⟨⟨t, hv6⟩, rfl⟩ := hr6
    obtain ⟨r, hr⟩ := ex_eq (stepsZ (placeAt d0 ds i) (placeAt d1 ds.reverse j))
    rw [hr] at hbS
    replace hv6 : v6 = .int r t := by rw [hv6, ← hr]; rfl
    subst hv6
    obtain ⟨hr0, hr1⟩ := hbS
    clear nX hm1
    k_steps
    exact IntEnd.made (by rw [hr]) (by k_asm) (by k_asm)
  case fin4 =>
  intro g2 ys2 hI2
  have hIk2 : ∀ _ : Unit, IntsAre ys2 _ := fun _ => hI2
  clear nX fX
  rw [hlA2, hlB2] at hIk2
  rw [hlA, hlB] at hIk
  k_steps
  refine Held.put ?_
  (rename News _ _ _ _ => nX)
  refine ke_eq_ints (nX.isList (by k_mem)) (nX.isList (by k_mem)) (hIk ()) (hIk2 ()) (by ke_room) ?_
  rw [decide_eq_true rfl]
  refine ⟨⟨.inl ⟨_, .bool true, [], rfl, ?g1, ?g2, ?g3, fun _ => ⟨List.nodup_nil, fun _ h => nomatch h⟩⟩, ?g4, ?g5, ?g6⟩, ?g7⟩
  case g1 => intro cls; rfl
  case g2 => constructor
  case g3 => first | exact postW_of (X := true) (by rfl) (by rfl) rfl | exact postW_of (X := true) (by with_unfolding_all rfl) (by with_unfolding_all rfl) rfl | (refine postW_of (X := true) ?_ ?_ rfl <;> kernel_rfl) | (refine postW_of (X := true) ?_ ?_ rfl <;> simp +decide)
  case g4 => exact Fr.keep (by k_asm)
  case g5 => rfl
  case g6 => exact hg
  case g7 =>
    refine And.intro ?_ trivial
    rw [← hrest2] at nX
    cases T9 with
    | none => exact GrownAt.of nX (.tail _ (.tail _ (mem7 _ (.head _))))
    | some y => exact GrownAt.of nX (.tail _ (.tail _ (mem7 _ (.head _)))))
end Mine
end
theorem PySem.Challenge.cw_pe0114_03_holds : PySem.Challenge.rw_pe0114_03.Holds :=
  Mine.law3
