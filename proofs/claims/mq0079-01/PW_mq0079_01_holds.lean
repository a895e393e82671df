import PyProof.Rows.All
import Wide.All
import OpenK.AllK
import Wide.FinOn
import PySem.Challenge.RW_mq0079_01
open PySem PySem.W PyProof.Rows
set_option Elab.async false
section PartTop0
set_option maxRecDepth 100000
set_option maxHeartbeats 8000000
namespace Mine
open_top hd for PySem.Challenge.rw_mq0079_01
end Mine
end PartTop0
section PartBase
set_option maxRecDepth 100000
set_option maxHeartbeats 8000000
namespace Mine
abbrev T3 := Int × Int × Int
def tlt (x y : T3) : Bool := decide (x.1 < y.1) || (decide (x.1 = y.1) && (decide (x.2.1 < y.2.1) || (decide (x.2.1 = y.2.1) && decide (x.2.2 < y.2.2))))
abbrev tupObj (d : T3) (t1 t2 t3 : Tok) (n : Nat) : Obj := { cls := .type "tuple", data := .seq [.int d.1 t1, .int d.2.1 t2, .int d.2.2 t3].toArray n }
def TupOK (news : List (Addr × Obj)) (key : Addr → T3) (a : Addr) : Prop := ∃ t1 t2 t3 n, (a, tupObj (key a) t1 t2 t3 n) ∈ news
abbrev refsOf (as : List Addr) : Array Value := (as.map Value.ref).toArray

section
variable {prog : Program} {w : World} {A : Around} {E : Value → Shared → Prop} {s : Shared} {h₀ : Heap} {L : Addr} {m : Str → Option Value}

theorem lt_tup {a b : Addr} {x y : T3} {t1 t2 t3 u1 u2 u3 : Tok} {Q : Value → Shared → Prop}
    (ha : IsTup s.heap a [.int x.1 t1, .int x.2.1 t2, .int x.2.2 t3].toArray) (hb : IsTup s.heap b [.int y.1 u1, .int y.2.1 u2, .int y.2.2 u3].toArray)
    (hu : A.units < cLine) (h : Q (.bool (tlt x y)) s) : wpAny (model prog w) A (compareOp .Lt (.ref a) (.ref b)) Q E s := by
  show wpAny _ _ (richCompare .Lt (.ref a) (.ref b)) Q E s
  refine wpAny_richCompare_same_room (op := .Lt) (T := "tuple") ha.typeIs hb.typeIs F.slot_tuple_lt ?_ hu
  refine wpAny_call_entry F.slot_tuple_lt ha.typeIs F.entry_tuple_lt ?_ (F.args_tuple_lt_2 _ _)
  show wpAny _ _ (isInstance (.ref b) (.type "tuple") >>= _) _ _ s
  refine wpAny_bind (wpAny_isInstance hb.typeIs isSubtype_tuple_tuple ?_)
  simp only [Bool.not_true, Bool.false_eq_true, if_false]
  refine wpAny_bind (tupleItemsOf_ ha ?_)
  refine wpAny_bind (tupleItemsOf_ hb ?_)
  simp only [List.zip_cons_cons, List.zip_nil_right, List.forIn_cons, List.forIn_nil]
  have fin : ∀ v : Value, v = .bool (tlt x y) → (∃ v', Fin.done (Flow.ret v) = Fin.done (Flow.ret v') ∧ v' ≠ .notImplemented ∧ Q v' s) := fun v e => ⟨v, rfl, by rw [e]; exact ⟨by simp, h⟩⟩
  refine wpAny_bind (wpAny_bind (wpAny_bind (wpAny_eqBool_int ?_)))
  by_cases e1 : x.1 = y.1
  · rw [e1, beq_self_eq_true]
    simp only [Bool.not_true, Bool.false_eq_true, if_false]
    refine wpAny_pure ?_
    dsimp only
    refine wpAny_bind (wpAny_bind (wpAny_eqBool_int ?_))
    by_cases e2 : x.2.1 = y.2.1
    · rw [e2, beq_self_eq_true]
      simp only [Bool.not_true, Bool.false_eq_true, if_false]
      refine wpAny_pure ?_
      dsimp only
      refine wpAny_bind (wpAny_bind (wpAny_eqBool_int ?_))
      by_cases e3 : x.2.2 = y.2.2
      · rw [e3, beq_self_eq_true]
        simp only [Bool.not_true, Bool.false_eq_true, if_false]
        refine wpAny_pure ?_
        dsimp only
        refine wpAny_pure (wpAny_pure (fin _ ?_))
        simp [tlt, e1, e2, e3, Builtin.Tuple.tupleCompareSizes]
      · rw [beq_false_of_ne e3]
        simp only [Bool.not_false, if_true]
        refine wpAny_bind (wpAny_rule (wpAny_bind (wpAny_lt_int (wpAny_bind (wpAny_pure (wpAny_pure (wpAny_pure (wpAny_pure (fin _ ?_)))))))))
        simp [tlt, e1, e2]
    · rw [beq_false_of_ne e2]
      simp only [Bool.not_false, if_true]
      refine wpAny_bind (wpAny_rule (wpAny_bind (wpAny_lt_int (wpAny_bind (wpAny_pure (wpAny_pure (wpAny_pure (wpAny_pure (fin _ ?_)))))))))
      simp [tlt, e1, e2]
  · rw [beq_false_of_ne e1]
    simp only [Bool.not_false, if_true]
    refine wpAny_bind (wpAny_rule (wpAny_bind (wpAny_lt_int (wpAny_bind (wpAny_pure (wpAny_pure (wpAny_pure (wpAny_pure (fin _ ?_)))))))))
    simp [tlt, e1]

theorem TupOK.isTup {h : Heap} {news : List (Addr × Obj)} {key : Addr → T3} {a : Addr} (N : News h₀ L h news) (k : TupOK news key a) :
    ∃ t1 t2 t3, IsTup h a [.int (key a).1 t1, .int (key a).2.1 t2, .int (key a).2.2 t3].toArray := by
  obtain ⟨t1, t2, t3, n, hm⟩ := k
  exact ⟨t1, t2, t3, _, (N _ hm).1, rfl, n, rfl⟩

theorem lt_keys {a b : Addr} {news : List (Addr × Obj)} {key : Addr → T3} {Q : Value → Shared → Prop} (N : News h₀ L s.heap news) (ka : TupOK news key a) (kb : TupOK news key b)
    (hu : A.units < cLine) (h : Q (.bool (tlt (key a) (key b))) s) : wpAny (model prog w) A (compareOp .Lt (.ref a) (.ref b)) Q E s := by
  obtain ⟨_, _, _, ha⟩ := ka.isTup N
  obtain ⟨_, _, _, hb⟩ := kb.isTup N
  exact lt_tup ha hb hu h

theorem item_refs {l : Addr} {as : List Addr} {n : Nat} {news : List (Addr × Obj)} {value slice : PySem.Expr} {k : Int} {u : Tok} {Q : Value → Shared → Prop} (N : News h₀ L s.heap news) (hm : (l, listOf (refsOf as) n) ∈ news)
    (h0 : 0 ≤ k) (hk : k < as.length) (hfit : k < 2 ^ 63) (h : Q (.ref (as.getD k.toNat 0)) s)
    (hs : subscripted slice false (.ref l) (.int k u) = operate [.ref l, .int k u] (getItem (.ref l) (.int k u)) := by with_unfolding_all rfl) (hg : ∀ r, letTemporaryGo value (.ref l) r = pure () := by intro _; with_unfolding_all rfl) :
    wpAny (model prog w) A (subscriptTail value slice (.ref l) (.int k u)) Q E s := by
  refine kim_list (l := as.map Value.ref) N hm rfl rfl h0 hfit ?_ h hs hg
  have : k.toNat < as.length := by omega
  simp [List.getElem?_map, List.getD_eq_getElem?_getD, this]

theorem set_refs {l x : Addr} {as : List Addr} {n : Nat} {rest : List (Addr × Obj)} {k : Int} {u : Tok} {Q : Unit → Shared → Prop} (F : Fr h₀ L s.heap m) (N : News h₀ L s.heap ((l, listOf (refsOf as) n) :: rest)) (hne : ∀ p ∈ rest, p.1 ≠ l)
    (h0 : 0 ≤ k) (hk : k < as.length) (hfit : k < 2 ^ 63) (h : ∀ h', Fr h₀ L h' m → News h₀ L h' ((l, listOf (refsOf (as.set k.toNat x)) n) :: rest) → Q () { s with heap := h' }) :
    wpAny (model prog w) A (setItem (.ref l) (.int k u) (.ref x)) Q E s := by
  have z := N _ (.head _)
  refine ki_setAt z.1 h0 hfit (by simpa using hk) (h _ (F.change (Heap.SameBut.update ..) z.2.1 z.2.2) ?_)
  refine ki_turn (pre := []) _ N (fun _ hp => nomatch hp) hne ?_ ?_
  · simp [List.map_set]
  · simp
theorem len_refs {l : Addr} {as : List Addr} {n : Nat} {news : List (Addr × Obj)} {Q : Value → Shared → Prop} (N : News h₀ L s.heap news) (hm : (l, listOf (refsOf as) n) ∈ news) (hlen : as.length < 1048576)
    (h : Q (.int (as.length : Int) (s.toks + 1)) { s with toks := s.toks + 1 + 1 }) : wpAny (model prog w) A (call (.builtin "len") [.ref l]) Q E s := by
  have e : (refsOf as).size = as.length := by simp
  refine len_list (items := refsOf as) ⟨_, (N _ hm).1, rfl, n, rfl⟩ (by rw [e]; omega) (by rw [e]; exact h)

theorem append_refs {l x : Addr} {as : List Addr} {n : Nat} {rest : List (Addr × Obj)} {Q : Value → Shared → Prop} (F : Fr h₀ L s.heap m) (N : News h₀ L s.heap ((l, listOf (refsOf as) n) :: rest)) (hne : ∀ p ∈ rest, p.1 ≠ l) (hlen : as.length < 1048576)
    (h : ∀ h', Fr h₀ L h' m → News h₀ L h' ((l, listOf (refsOf (as ++ [x])) (n + 1)) :: rest) → Q .none { s with heap := h' }) :
    wpAny (model prog w) A (call (.builtin "list.append") [.ref l, .ref x]) Q E s := by
  have e : refsOf (as ++ [x]) = (refsOf as).push (.ref x) := by simp
  rw [e] at h
  exact append_K F N (Upd.head hne) h (by rw [sizeLine_eq]; simp; omega)

theorem pop_refs {l y : Addr} {as : List Addr} {n : Nat} {rest : List (Addr × Obj)} {Q : Value → Shared → Prop} (F : Fr h₀ L s.heap m) (N : News h₀ L s.heap ((l, listOf (refsOf (as ++ [y])) n) :: rest)) (hne : ∀ p ∈ rest, p.1 ≠ l) (hlen : as.length < 1048576)
    (h : ∀ h', Fr h₀ L h' m → News h₀ L h' ((l, listOf (refsOf as) (n + 1)) :: rest) → Q (.ref y) { s with heap := h' }) :
    wpAny (model prog w) A (call (.builtin "list.pop") [.ref l]) Q E s :=
  kl_pop (p := as.map Value.ref) (y := .ref y) F N (by simp [kpa_last]) (Upd.head hne) (by rw [sizeLine_eq]; simp; omega) h

theorem truthy_refs {l : Addr} {as : List Addr} {n : Nat} {news : List (Addr × Obj)} {Q : Bool → Shared → Prop} (N : News h₀ L s.heap news) (hm : (l, listOf (refsOf as) n) ∈ news) (hlen : as.length < 1048576)
    (h : Q (!as.isEmpty) { s with toks := s.toks + 1 + 1 }) : wpAny (model prog w) A (truthy (.ref l)) Q E s := by
  refine wpAny_truthy_list (items := refsOf as) ⟨_, (N _ hm).1, rfl, n, rfl⟩ (by simp; omega) ?_
  have e : (refsOf as).isEmpty = as.isEmpty := by simp
  rw [e]; exact h
end
end Mine
end PartBase
section PartHeapP
namespace Mine
open PySem
abbrev tle (x y : T3) : Prop := tlt y x = false
theorem tle_refl (x : T3) : tle x x := by simp [tle, tlt]
theorem tlt_iff {x y : T3} : tlt x y = true ↔ x.1 < y.1 ∨ (x.1 = y.1 ∧ (x.2.1 < y.2.1 ∨ (x.2.1 = y.2.1 ∧ x.2.2 < y.2.2))) := by
  simp [tlt]
theorem tle_iff {x y : T3} : tle x y ↔ ¬ (y.1 < x.1 ∨ (y.1 = x.1 ∧ (y.2.1 < x.2.1 ∨ (y.2.1 = x.2.1 ∧ y.2.2 < x.2.2)))) := by
  rw [← tlt_iff]; simp [tle]
theorem tle_trans {x y z : T3} (h1 : tle x y) (h2 : tle y z) : tle x z := by
  rw [tle_iff] at *; omega
theorem tle_of_tlt {x y : T3} (h : tlt x y = true) : tle x y := by
  rw [tle_iff]; rw [tlt_iff] at h; omega
theorem tle_antisymm {x y : T3} (h1 : tle x y) (h2 : tle y x) : x = y := by
  rw [tle_iff] at *
  obtain ⟨a, b, c⟩ := x
  obtain ⟨a', b', c'⟩ := y
  simp only [Prod.mk.injEq] at *
  omega

def par (i : Nat) : Nat := (i - 1) / 2
abbrev kat (key : Addr → T3) (as : List Addr) (i : Nat) : T3 := key (as.getD i 0)

def IsHeap (key : Addr → T3) (as : List Addr) : Prop := ∀ i, 1 ≤ i → i < as.length → tle (kat key as (par i)) (kat key as i)

structure SDInv (key : Addr → T3) (as : List Addr) (pos : Nat) (x : Addr) : Prop where
  off : ∀ i, 1 ≤ i → i < as.length → i ≠ pos → par i ≠ pos → tle (kat key as (par i)) (kat key as i)
  low : ∀ i, 1 ≤ i → i < as.length → par i = pos → tle (key x) (kat key as i)
  grand : ∀ i, 1 ≤ i → i < as.length → par i = pos → 1 ≤ pos → tle (kat key as (par pos)) (kat key as i)

theorem getD_set {as : List Addr} {i j : Nat} {x : Addr} (hi : i < as.length) : (as.set i x).getD j 0 = if i = j then x else as.getD j 0 := by
  simp only [List.getD_eq_getElem?_getD, List.getElem?_set]
  by_cases h : i = j
  · subst h; simp [hi]
  · simp [h]

theorem kat_set {key : Addr → T3} {as : List Addr} {i j : Nat} {x : Addr} (hi : i < as.length) : kat key (as.set i x) j = if i = j then key x else kat key as j := by
  unfold kat; rw [getD_set hi]; split <;> rfl

theorem sd_step {key : Addr → T3} {as : List Addr} {pos : Nat} {x : Addr} (h : SDInv key as pos x) (hp : pos < as.length) (h1 : 1 ≤ pos) (hlt : tlt (key x) (kat key as (par pos)) = true) :
    SDInv key (as.set pos (as.getD (par pos) 0)) (par pos) x := by
  have hpp : par pos < pos := by unfold par; omega
  have hup : ∀ i, 1 ≤ i → i < as.length → i ≠ pos → par i = par pos → tle (kat key as (par pos)) (kat key as i) := fun i a b c d => by
    have := h.off i a b c (by omega)
    rwa [d] at this
  have hgp : 1 ≤ par pos → tle (kat key as (par (par pos))) (kat key as (par pos)) := fun a => h.off (par pos) a (by omega) (by omega) (by unfold par at *; omega)
  refine ⟨fun i a b c d => ?_, fun i a b c => ?_, fun i a b c d => ?_⟩
  · rw [List.length_set] at b
    rw [kat_set hp, kat_set hp]
    by_cases e1 : pos = i
    · subst e1; exact absurd rfl d
    · rw [if_neg e1]
      by_cases e2 : pos = par i
      · rw [if_pos e2]; exact h.grand i a b e2.symm h1
      · rw [if_neg e2]; exact h.off i a b (by omega) (by omega)
  · rw [List.length_set] at b
    rw [kat_set hp]
    by_cases e1 : pos = i
    · rw [if_pos e1]; exact tle_of_tlt hlt
    · rw [if_neg e1]; exact tle_trans (tle_of_tlt hlt) (hup i a b (by omega) c)
  · rw [List.length_set] at b
    rw [kat_set hp, kat_set hp, if_neg (by unfold par at *; omega)]
    by_cases e1 : pos = i
    · rw [if_pos e1]; exact hgp d
    · rw [if_neg e1]; exact tle_trans (hgp d) (hup i a b (by omega) c)

theorem sd_end {key : Addr → T3} {as : List Addr} {pos : Nat} {x : Addr} (h : SDInv key as pos x) (hp : pos < as.length) (hq : 1 ≤ pos → tle (kat key as (par pos)) (key x)) :
    IsHeap key (as.set pos x) := by
  intro i a b
  rw [List.length_set] at b
  rw [kat_set hp, kat_set hp]
  by_cases e1 : pos = i
  · subst e1
    rw [if_pos rfl, if_neg (by unfold par; omega)]
    exact hq a
  · rw [if_neg e1]
    by_cases e2 : pos = par i
    · rw [if_pos e2]; exact h.low i a b e2.symm
    · rw [if_neg e2]; exact h.off i a b (by omega) (by omega)

theorem perm_hole {as : List Addr} {i j : Nat} {x : Addr} (hi : i < as.length) (hj : j < as.length) (hij : i ≠ j) :
    ((as.set i (as.getD j 0)).set j x).Perm (as.set i x) := by
  have e : as.getD j 0 = (as.set i x)[j]'(by simpa using hj) := by
    simp [List.getElem_set, hij, List.getD_eq_getElem?_getD, hj]
  have := List.set_set_perm (as := as.set i x) (i := i) (j := j) (by simpa using hi) (by simpa using hj)
  rw [← e] at this
  simpa using this
structure SUInv (key : Addr → T3) (as : List Addr) (pos : Nat) : Prop where
  off : ∀ i, 1 ≤ i → i < as.length → i ≠ pos → par i ≠ pos → tle (kat key as (par i)) (kat key as i)
  grand : ∀ i, 1 ≤ i → i < as.length → par i = pos → 1 ≤ pos → tle (kat key as (par pos)) (kat key as i)

theorem su_step {key : Addr → T3} {as : List Addr} {pos c : Nat} (h : SUInv key as pos) (hc : c < as.length) (h1 : 1 ≤ c) (hpc : par c = pos) (hmin : ∀ i, 1 ≤ i → i < as.length → par i = pos → tle (kat key as c) (kat key as i)) :
    SUInv key (as.set pos (as.getD c 0)) c := by
  have hp : pos < as.length := by unfold par at hpc; omega
  refine ⟨fun i a b d e => ?_, fun i a b d e => ?_⟩
  · rw [List.length_set] at b
    rw [kat_set hp, kat_set hp]
    by_cases e1 : pos = i
    · subst e1
      rw [if_pos rfl, if_neg (by unfold par; omega)]
      exact h.grand c h1 hc hpc a
    · rw [if_neg e1]
      by_cases e2 : pos = par i
      · rw [if_pos e2]; exact hmin i a b e2.symm
      · rw [if_neg e2]; exact h.off i a b (by omega) (by omega)
  · rw [List.length_set] at b
    rw [kat_set hp, kat_set hp, if_pos hpc.symm, if_neg (by unfold par at *; omega)]
    have := h.off i a b (by unfold par at *; omega) (by unfold par at *; omega)
    rwa [d] at this

theorem su_end {key : Addr → T3} {as : List Addr} {pos : Nat} {x : Addr} (h : SUInv key as pos) (hp : pos < as.length) (hleaf : as.length ≤ 2 * pos + 1) :
    SDInv key (as.set pos x) pos ((as.set pos x).getD pos 0) := by
  have no : ∀ i, 1 ≤ i → i < (as.set pos x).length → par i ≠ pos := fun i a b => by rw [List.length_set] at b; unfold par; omega
  refine ⟨fun i a b c d => ?_, fun i a b c => absurd c (no i a b), fun i a b c => absurd c (no i a b)⟩
  rw [List.length_set] at b
  rw [kat_set hp, kat_set hp, if_neg (by omega), if_neg (by omega)]
  exact h.off i a b c d

theorem su_start {key : Addr → T3} {as : List Addr} {x : Addr} (h : IsHeap key as) : SUInv key (as.set 0 x) 0 := by
  refine ⟨fun i a b c d => ?_, fun i a b c d => absurd d (by omega)⟩
  rw [List.length_set] at b
  have h0 : 0 < as.length := by omega
  rw [kat_set h0, kat_set h0, if_neg (by omega), if_neg (by omega)]
  exact h i a b

theorem push_start {key : Addr → T3} {as : List Addr} {x : Addr} (h : IsHeap key as) : SDInv key (as ++ [x]) as.length x := by
  have no : ∀ i, 1 ≤ i → i < (as ++ [x]).length → par i ≠ as.length := fun i a b => by simp at b; unfold par; omega
  refine ⟨fun i a b c d => ?_, fun i a b c => absurd c (no i a b), fun i a b c => absurd c (no i a b)⟩
  simp at b
  have hi : i < as.length := by omega
  have hp : par i < as.length := by unfold par; omega
  have e : ∀ j, j < as.length → kat key (as ++ [x]) j = kat key as j := fun j hj => by
    unfold kat; simp [List.getD_eq_getElem?_getD, List.getElem?_append, hj]
  rw [e _ hi, e _ hp]
  exact h i a hi

theorem heap_min {key : Addr → T3} {as : List Addr} (h : IsHeap key as) : ∀ i, i < as.length → tle (kat key as 0) (kat key as i) := by
  intro i
  induction i using Nat.strongRecOn with
  | ind i ih =>
    intro hi
    by_cases h0 : i = 0
    · subst h0; exact tle_refl _
    · have hp : par i < i := by unfold par; omega
      exact tle_trans (ih _ hp (by omega)) (h i (by omega) hi)
end Mine
end PartHeapP
section PartSD
set_option maxRecDepth 100000
set_option maxHeartbeats 8000000
set_option pp.deepTerms false
set_option pp.deepTerms.threshold 5
set_option pp.maxSteps 20000
namespace Mine
def Stop (P : Prop) : Prop := P
theorem Stop.out {P : Prop} (h : Stop P) : P := h
theorem Stop.mk {P : Prop} (h : P) : Stop P := h
theorem shr1 (p : Nat) (h : 0 < p) : ((p : Int) - 1).fdiv (2 ^ Int.toNat 1) = ((par p : Nat) : Int) := by
  show ((p : Int) - 1).fdiv 2 = _
  rw [Int.fdiv_eq_ediv_of_nonneg _ (by omega)]
  unfold par
  omega
theorem TupOK.tail {rest : List (Addr × Obj)} {p : Addr × Obj} {key : Addr → T3} {a : Addr} (h : TupOK rest key a) : TupOK (p :: rest) key a := by
  obtain ⟨t1, t2, t3, n, hm⟩ := h
  exact ⟨t1, t2, t3, n, .tail _ hm⟩
theorem tup_get {rest : List (Addr × Obj)} {p : Addr × Obj} {key : Addr → T3} {as : List Addr} {k : Nat} (h : ∀ a ∈ as, TupOK rest key a) (hk : k < as.length) : TupOK (p :: rest) key (as.getD k 0) := by
  refine (h _ ?_).tail
  simp [List.getD_eq_getElem?_getD, hk]
theorem tups_set {rest : List (Addr × Obj)} {key : Addr → T3} {as : List Addr} {k : Nat} {x : Addr} (h : ∀ a ∈ as, TupOK rest key a) (hx : TupOK rest key x) : ∀ a ∈ as.set k x, TupOK rest key a := fun a ha =>
  (List.mem_or_eq_of_mem_set ha).elim (h a) fun e => e ▸ hx
theorem getD_mem {as : List Addr} {k : Nat} (hk : k < as.length) : as.getD k 0 ∈ as := by simp [List.getD_eq_getElem?_getD, hk]
local macro_rules | `(tactic| walk_at "KswEnd") => `(tactic| (refine Stop.out ?_))
local macro_rules | `(tactic| ktr_rel) => `(tactic| exact tup_get (by assumption) (by omega))
local macro_rules | `(tactic| walk_at "subscriptTail") => `(tactic| (k_here; (with_reducible show wpAny _ _ (subscriptTail _ _ (Value.ref _) (Value.int _ _)) _ _ _); k_dflt (refine' item_refs ?k1 ?k2 ?k3 ?k4 ?k5 ?_ ?k6 ?k7; (case k1 => k_asm); (case k2 => k_mem); (case k3 => omega); (case k4 => omega); (case k5 => omega); (case k6 => with_unfolding_all rfl); (case k7 => (intro _; with_unfolding_all rfl)); k_whole)))
local macro_rules | `(tactic| walk_at "setItem ref int ref") => `(tactic| (k_here; k_dflt (refine' set_refs ?k1 ?k2 ?k3 ?k4 ?k5 ?k6 ?_; (case k1 => k_asm); (case k2 => k_asm); (case k3 => assumption); (case k4 => omega); (case k5 => omega); (case k6 => omega); k_whole); intro h' F' N'; (try k_sweep)))
local macro_rules | `(tactic| walk_at "compareOp Lt ref ref") => `(tactic| (k_here; k_dflt (refine' lt_keys ?k1 ?k2 ?k3 ?k4 ?_; (case k1 => k_asm); (case k2 => ktr_rel); (case k3 => ktr_rel); (case k4 => ktr_units); k_whole)))
theorem siftdown_spec {w : World} {mean : ExcName → Option Value} {mg mb : Str → Option Value} {dp un : Nat} {gd : Option (List Code)} {cn : Str} {cs : Scope} {a : Addr} {ccd : Value} {cl : List (Str × Addr)} {outer : List Env} {A₀ : Around} {base h₀ : Heap} {L : Addr} {m : Str → Option Value} {s : Shared} {Q E : Value → Shared → Prop}
  {l : Addr} {n : Nat} {as : List Addr} {pi : Int} {t0 tp : Tok} {rest : List (Addr × Obj)} {key : Addr → T3} (pos : Nat)
  (hB : Below A₀ base outer h₀) (F : Fr h₀ L s.heap m) (X : (hd.heap_39 w.params).In h₀) (N : News h₀ L s.heap ((l, listOf (refsOf as) n) :: rest)) (hT : Top hd.view_39 (looseW hd.view_39 []) mean mg mb h₀) (hk : cs.kind = .function)
  (hne : ∀ p ∈ rest, p.1 ≠ l) (htup : ∀ a ∈ as, TupOK rest key a) (hpi : pi = (pos : Int)) (hpos : pos < as.length) (hlen : as.length < 1048576) (hsd : SDInv key as pos (as.getD pos 0)) (hdp : dp + 1 < recursionLimit) (hun : un + 8 < cLine)
  (hret : ∀ as' h' tk', Fr h₀ L h' m → News h₀ L h' ((l, listOf (refsOf as') n) :: rest) → as'.Perm as → IsHeap key as' → Q .none { s with heap := h', toks := tk' }) :
  wpAny (model Challenge.rw_mq0079_01.row.prog w) (ktrTop dp un gd cn cs L a ccd cl outer) (call (.ref 42) [.ref l, .int 0 t0, .int pi tp]) Q E s := by
  subst hpi
  k_with_none
  k_with "exec While Compare cons nil" => (refine Stop.out ?_)
  revert X; k_fill; intro X
  refine wpAny_call ?_
  k_dflt ktr_enter
  k_steps
  refine Stop.mk ?_
  rename Fr _ _ _ _ => F1
  rename News _ _ _ _ => N1
  refine ksw_while (σ := List Addr × Nat × Tok) (fun c => (l, listOf (refsOf c.1) n) :: rest) (fun c => [(Str.ofString "pos", Value.int (c.2.1 : Int) c.2.2)]) (fun _ => True) [Str.ofString "parentpos", Str.ofString "parent"]
    (fun c => c.2.1 < c.1.length ∧ c.1.length = as.length ∧ SDInv key c.1 c.2.1 (as.getD pos 0) ∧ (c.1.set c.2.1 (as.getD pos 0)).Perm as ∧ ∀ a ∈ c.1, TupOK rest key a) (fun c => c.2.1) (as, pos, tp) F1 N1 trivial ?_ ?_ ?_
  · intro p hp; rcases List.mem_cons.mp hp with rfl | hp; rfl; exact nomatch hp
  · exact ⟨hpos, rfl, hsd, by simp [List.getD_eq_getElem?_getD, hpos], htup⟩
  · rintro ⟨bs, q, tq⟩ u h3 tk3 - ⟨hq1, hq2, hq3, hq4, hq5⟩ F2 N2
    dsimp only at hq1 hq2 hq3 hq4 hq5 F2 N2 ⊢
    clear F1 N1
    by_cases hq0 : 0 < q
    · have hpp := shr1 q hq0
      have hpl : par q < q := by unfold par; omega
      have hx : TupOK rest key (bs.getD (par q) 0) := hq5 _ (getD_mem (by omega))
      k_steps
      · rename Fr _ _ _ _ => F3
        rename News _ _ _ _ => N3
        rename tlt _ _ = true => hlt
        simp only [hpp, Int.toNat_natCast] at F3 N3 hlt
        refine Stop.mk ?_
        refine' ksw_end (bs.set q (bs.getD (par q) 0), par q, ?tok) F3 N3 (fun p hp => hp) trivial ?b ?c ?d hpl
        case b => kst_all
        case c =>
          intro z h2 h3
          have n1 : z ≠ Str.ofString "pos" := h2 _ (.head _)
          have n2 : z ≠ Str.ofString "parentpos" := fun e => by subst e; simp at h3
          have n3 : z ≠ Str.ofString "parent" := fun e => by subst e; simp at h3
          simp only [kstB, if_neg n1, if_neg n2, if_neg n3, h3, Bool.false_eq_true, if_false, Int.toNat_natCast]
        case d => refine ⟨by dsimp only; rw [List.length_set]; omega, by dsimp only; rw [List.length_set]; exact hq2, sd_step hq3 hq1 hq0 hlt, (perm_hole hq1 (by omega) (by omega)).trans hq4, tups_set hq5 hx⟩
      · rename Fr h₀ _ _ _ => F3
        rename News h₀ _ _ _ => N3
        rename tlt _ _ = false => hlt
        simp only [hpp, Int.toNat_natCast] at F3 N3 hlt
        exact hret _ _ _ F3 N3 hq4 (sd_end hq3 hq1 fun _ => hlt)
    · k_steps
      · rename Fr h₀ _ _ _ => F3
        rename News h₀ _ _ _ => N3
        simp only [Int.toNat_natCast] at N3
        exact hret _ _ _ F3 N3 hq4 (sd_end hq3 hq1 fun h => absurd h hq0)
end Mine
end PartSD
section PartSU
set_option maxRecDepth 100000
set_option maxHeartbeats 8000000
set_option pp.deepTerms false
set_option pp.deepTerms.threshold 5
set_option pp.maxSteps 20000
namespace Mine
local macro_rules | `(tactic| walk_at "KswEnd") => `(tactic| (refine Stop.out ?_))
local macro_rules | `(tactic| ktr_rel) => `(tactic| exact tup_get (by assumption) (by omega))
local macro_rules | `(tactic| walk_at "subscriptTail") => `(tactic| (k_here; (with_reducible show wpAny _ _ (subscriptTail _ _ (Value.ref _) (Value.int _ _)) _ _ _); k_dflt (refine' item_refs ?k1 ?k2 ?k3 ?k4 ?k5 ?_ ?k6 ?k7; (case k1 => k_asm); (case k2 => k_mem); (case k3 => omega); (case k4 => omega); (case k5 => omega); (case k6 => with_unfolding_all rfl); (case k7 => (intro _; with_unfolding_all rfl)); k_whole)))
local macro_rules | `(tactic| walk_at "setItem ref int ref") => `(tactic| (k_here; k_dflt (refine' set_refs ?k1 ?k2 ?k3 ?k4 ?k5 ?k6 ?_; (case k1 => k_asm); (case k2 => k_asm); (case k3 => assumption); (case k4 => omega); (case k5 => omega); (case k6 => omega); k_whole); intro h' F' N'; (try k_sweep)))
local macro_rules | `(tactic| walk_at "compareOp Lt ref ref") => `(tactic| (k_here; k_dflt (refine' lt_keys ?k1 ?k2 ?k3 ?k4 ?_; (case k1 => k_asm); (case k2 => ktr_rel); (case k3 => ktr_rel); (case k4 => ktr_units); k_whole)))
local macro_rules | `(tactic| walk_at "call builtin:len") => `(tactic| (k_here; k_dflt (refine' len_refs ?k1 ?k2 ?k3 ?_; (case k1 => k_asm); (case k2 => k_mem); (case k3 => (try simp only [List.length_set]); omega); k_whole)))
theorem su_next {key : Addr → T3} {as bs : List Addr} {rest : List (Addr × Obj)} {x : Addr} {p c : Nat} (hq1 : p < bs.length) (hq2 : bs.length = as.length) (hq3 : SUInv key bs p) (hq4 : (bs.set p x).Perm as) (hq5 : ∀ a ∈ bs, TupOK rest key a)
    (hc : c < bs.length) (h1 : 1 ≤ c) (hpc : par c = p) (hmin : ∀ i, 1 ≤ i → i < bs.length → par i = p → tle (kat key bs c) (kat key bs i)) :
    c < (bs.set p (bs.getD c 0)).length ∧ (bs.set p (bs.getD c 0)).length = as.length ∧ SUInv key (bs.set p (bs.getD c 0)) c ∧ ((bs.set p (bs.getD c 0)).set c x).Perm as ∧ ∀ a ∈ bs.set p (bs.getD c 0), TupOK rest key a :=
  ⟨by rw [List.length_set]; exact hc, by rw [List.length_set]; exact hq2, su_step hq3 hc h1 hpc hmin, (perm_hole hq1 hc (by unfold par at hpc; omega)).trans hq4, tups_set hq5 (hq5 _ (getD_mem hc))⟩
theorem su_min1 {key : Addr → T3} {bs : List Addr} {p : Nat} (h : ¬ 2 * p + 2 < bs.length) : ∀ i, 1 ≤ i → i < bs.length → par i = p → tle (kat key bs (2 * p + 1)) (kat key bs i) := fun i a b c => by
  have : i = 2 * p + 1 := by unfold par at c; omega
  subst this; exact tle_refl _
theorem su_min2 {key : Addr → T3} {bs : List Addr} {p : Nat} (h : tlt (kat key bs (2 * p + 1)) (kat key bs (2 * p + 2)) = true) : ∀ i, 1 ≤ i → i < bs.length → par i = p → tle (kat key bs (2 * p + 1)) (kat key bs i) := fun i a b c => by
  have : i = 2 * p + 1 ∨ i = 2 * p + 2 := by unfold par at c; omega
  rcases this with rfl | rfl
  · exact tle_refl _
  · exact tle_of_tlt h
theorem su_min3 {key : Addr → T3} {bs : List Addr} {p : Nat} (h : tlt (kat key bs (2 * p + 1)) (kat key bs (2 * p + 2)) = false) : ∀ i, 1 ≤ i → i < bs.length → par i = p → tle (kat key bs (2 * p + 2)) (kat key bs i) := fun i a b c => by
  have : i = 2 * p + 1 ∨ i = 2 * p + 2 := by unfold par at c; omega
  rcases this with rfl | rfl
  · exact h
  · exact tle_refl _
theorem siftup_spec {w : World} {mean : ExcName → Option Value} {mg mb : Str → Option Value} {dp un : Nat} {gd : Option (List Code)} {cn : Str} {cs : Scope} {a : Addr} {ccd : Value} {cl : List (Str × Addr)} {outer : List Env} {A₀ : Around} {base h₀ : Heap} {L : Addr} {m : Str → Option Value} {s : Shared} {Q E : Value → Shared → Prop}
  {l : Addr} {n : Nat} {as : List Addr} {t0 : Tok} {rest : List (Addr × Obj)} {key : Addr → T3}
  (hB : Below A₀ base outer h₀) (F : Fr h₀ L s.heap m) (X : (hd.heap_39 w.params).In h₀) (N : News h₀ L s.heap ((l, listOf (refsOf as) n) :: rest)) (hT : Top hd.view_39 (looseW hd.view_39 []) mean mg mb h₀) (hk : cs.kind = .function)
  (hne : ∀ p ∈ rest, p.1 ≠ l) (htup : ∀ a ∈ as, TupOK rest key a) (hpos : 0 < as.length) (hlen : as.length < 1048576) (hsu : SUInv key as 0) (hdp : dp + 2 < recursionLimit) (hun : un + 16 < cLine)
  (hret : ∀ as' h' tk', Fr h₀ L h' m → News h₀ L h' ((l, listOf (refsOf as') n) :: rest) → as'.Perm as → IsHeap key as' → Q .none { s with heap := h', toks := tk' }) :
  wpAny (model Challenge.rw_mq0079_01.row.prog w) (ktrTop dp un gd cn cs L a ccd cl outer) (call (.ref 49) [.ref l, .int 0 t0]) Q E s := by
  k_with_none
  k_with "exec While Compare cons nil" => (refine Stop.out ?_)
  k_with "call ref cons nil" => (refine Stop.out ?_)
  revert X; k_fill; intro X
  refine wpAny_call ?_
  k_dflt ktr_enter
  k_steps
  refine Stop.mk ?_
  rename Fr _ _ _ _ => F1
  rename News _ _ _ _ => N1
  refine' ksw_while (σ := List Addr × Int × Int × Tok × Tok) (fun c => (l, listOf (refsOf c.1) n) :: rest) (fun c => [(Str.ofString "pos", Value.int c.2.1 c.2.2.2.1), (Str.ofString "childpos", Value.int c.2.2.1 c.2.2.2.2)]) (fun _ => True) [Str.ofString "rightpos"]
    (fun c => ∃ p : Nat, c.2.1 = p ∧ c.2.2.1 = 2 * p + 1 ∧ p < c.1.length ∧ c.1.length = as.length ∧ SUInv key c.1 p ∧ (c.1.set p (as.getD 0 0)).Perm as ∧ ∀ a ∈ c.1, TupOK rest key a) (fun c => c.1.length - c.2.1.toNat) (as, 0, 2 * 0 + 1, t0, ?tk0) F1 N1 trivial ?ka ?kb ?kc
  case ka => kst_all
  case kb => exact ⟨0, rfl, rfl, hpos, rfl, hsu, by simp [List.getD_eq_getElem?_getD, hpos], htup⟩
  case kc =>
    rintro ⟨bs, q, r, tq, tr⟩ u h3 tk3 - ⟨p, hq0, hr0, hq1, hq2, hq3, hq4, hq5⟩ F2 N2
    dsimp only at hq0 hr0 hq1 hq2 hq3 hq4 hq5 F2 N2 ⊢
    clear F1 N1
    have e0 : q.toNat = p := by omega
    have e1 : r.toNat = 2 * p + 1 := by omega
    have e2 : (r + 1).toNat = 2 * p + 2 := by omega
    have e3 : par (2 * p + 1) = p := by unfold par; omega
    have e4 : par (2 * p + 2) = p := by unfold par; omega
    k_steps
    · rename Fr _ _ _ _ => F3
      rename News _ _ _ _ => N3
      rename tlt _ _ = true => hlt
      simp only [e0, e1, e2] at N3 hlt
      refine Stop.mk ?_
      refine' ksw_end (bs.set p (bs.getD (2 * p + 1) 0), r, 2 * r + 1, ?t1, ?t2) F3 N3 (fun p hp => hp) trivial ?b ?c ?d ?e
      case b => kst_all
      case c =>
        intro z h2 h3
        have n1 : z ≠ Str.ofString "pos" := h2 _ (.head _)
        have n2 : z ≠ Str.ofString "childpos" := h2 _ (.tail _ (.head _))
        have n3 : z ≠ Str.ofString "rightpos" := fun e => by subst e; simp at h3
        simp only [kstB, if_neg n1, if_neg n2, if_neg n3, h3, Bool.false_eq_true, if_false]
      case d => exact ⟨2 * p + 1, by dsimp only; omega, by dsimp only; omega, su_next hq1 hq2 hq3 hq4 hq5 (by omega) (by omega) e3 (su_min2 hlt)⟩
      case e => dsimp only; rw [List.length_set]; omega
    · rename Fr _ _ _ _ => F3
      rename News _ _ _ _ => N3
      rename tlt _ _ = false => hlt
      simp only [e0, e1, e2] at N3 hlt
      refine Stop.mk ?_
      refine' ksw_end (bs.set p (bs.getD (2 * p + 2) 0), r + 1, 2 * (r + 1) + 1, ?t3, ?t4) F3 N3 (fun p hp => hp) trivial ?b ?c ?d ?e
      case b => kst_all
      case c =>
        intro z h2 h3
        have n1 : z ≠ Str.ofString "pos" := h2 _ (.head _)
        have n2 : z ≠ Str.ofString "childpos" := h2 _ (.tail _ (.head _))
        have n3 : z ≠ Str.ofString "rightpos" := fun e => by subst e; simp at h3
        simp only [kstB, if_neg n1, if_neg n2, if_neg n3, h3, Bool.false_eq_true, if_false]
      case d => exact ⟨2 * p + 2, by dsimp only; omega, by dsimp only; omega, su_next hq1 hq2 hq3 hq4 hq5 (by omega) (by omega) e4 (su_min3 hlt)⟩
      case e => dsimp only; rw [List.length_set]; omega
    · rename Fr _ _ _ _ => F3
      rename News _ _ _ _ => N3
      simp only [e0, e1, e2] at N3
      refine Stop.mk ?_
      refine' ksw_end (bs.set p (bs.getD (2 * p + 1) 0), r, 2 * r + 1, ?t5, ?t6) F3 N3 (fun p hp => hp) trivial ?b ?c ?d ?e
      case b => kst_all
      case c =>
        intro z h2 h3
        have n1 : z ≠ Str.ofString "pos" := h2 _ (.head _)
        have n2 : z ≠ Str.ofString "childpos" := h2 _ (.tail _ (.head _))
        have n3 : z ≠ Str.ofString "rightpos" := fun e => by subst e; simp at h3
        simp only [kstB, if_neg n1, if_neg n2, if_neg n3, h3, Bool.false_eq_true, if_false]
      case d => exact ⟨2 * p + 1, by dsimp only; omega, by dsimp only; omega, su_next hq1 hq2 hq3 hq4 hq5 (by omega) (by omega) e3 (su_min1 (by omega))⟩
      case e => dsimp only; rw [List.length_set]; omega
    · refine Stop.mk ?_
      rename News _ _ _ _ => N3
      simp only [e0] at N3
      have hx : TupOK rest key (as.getD 0 0) := htup _ (getD_mem hpos)
      k_dflt (refine' siftdown_spec p ?kB ?kF ?kX N3 ?kT ?kk hne (tups_set hq5 hx) hq0 ?kl ?kl2 (su_end hq3 hq1 (by omega)) ?kd ?ku ?kR; (case kB => k_asm); (case kF => k_asm); (case kX => k_asm); (case kT => k_asm); (case kk => exact rfl); (case kl => (rw [List.length_set]; exact hq1)); (case kl2 => (rw [List.length_set]; omega)); (case kd => ktr_room); (case ku => ktr_units))
      intro as' h9 tk9 F9 N9 hp9 hh9
      k_steps
      rename Fr h₀ _ _ _ => F4
      rename News h₀ _ _ _ => N4
      exact hret _ _ _ F4 N4 (hp9.trans hq4) hh9
end Mine
end PartSU
section PartHQ
set_option maxRecDepth 100000
set_option maxHeartbeats 8000000
set_option pp.deepTerms false
set_option pp.deepTerms.threshold 5
set_option pp.maxSteps 20000
namespace Mine
local macro_rules | `(tactic| walk_at "KswEnd") => `(tactic| (refine Stop.out ?_))
local macro_rules | `(tactic| ktr_rel) => `(tactic| exact tup_get (by assumption) (by omega))
local macro_rules | `(tactic| walk_at "subscriptTail") => `(tactic| (k_here; (with_reducible show wpAny _ _ (subscriptTail _ _ (Value.ref _) (Value.int _ _)) _ _ _); k_dflt (refine' item_refs ?k1 ?k2 ?k3 ?k4 ?k5 ?_ ?k6 ?k7; (case k1 => k_asm); (case k2 => k_mem); (case k3 => omega); (case k4 => omega); (case k5 => omega); (case k6 => with_unfolding_all rfl); (case k7 => (intro _; with_unfolding_all rfl)); k_whole)))
local macro_rules | `(tactic| walk_at "setItem ref int ref") => `(tactic| (k_here; k_dflt (refine' set_refs ?k1 ?k2 ?k3 ?k4 ?k5 ?k6 ?_; (case k1 => k_asm); (case k2 => k_asm); (case k3 => assumption); (case k4 => omega); (case k5 => omega); (case k6 => omega); k_whole); intro h' F' N'; (try k_sweep)))
local macro_rules | `(tactic| walk_at "compareOp Lt ref ref") => `(tactic| (k_here; k_dflt (refine' lt_keys ?k1 ?k2 ?k3 ?k4 ?_; (case k1 => k_asm); (case k2 => ktr_rel); (case k3 => ktr_rel); (case k4 => ktr_units); k_whole)))
local macro_rules | `(tactic| walk_at "call builtin:len") => `(tactic| (k_here; k_dflt (refine' len_refs ?k1 ?k2 ?k3 ?_; (case k1 => k_asm); (case k2 => k_mem); (case k3 => (try simp only [List.length_set]); omega); k_whole)))
local macro_rules | `(tactic| walk_at "call builtin:list.append") => `(tactic| (k_here; k_dflt (refine' append_refs ?k1 ?k2 ?k3 ?k4 ?_; (case k1 => k_asm); (case k2 => k_asm); (case k3 => assumption); (case k4 => omega); k_whole); intro h' F' N'; (try k_sweep)))
local macro_rules | `(tactic| walk_at "call builtin:list.pop") => `(tactic| (k_here; k_dflt (refine' pop_refs ?k1 ?k2 ?k3 ?k4 ?_; (case k1 => k_asm); (case k2 => k_asm); (case k3 => assumption); (case k4 => omega); k_whole); intro h' F' N'; (try k_sweep)))
local macro_rules | `(tactic| walk_at "truthy ref") => `(tactic| (k_here; k_dflt (refine' truthy_refs ?k1 ?k2 ?k3 ?_; (case k1 => k_asm); (case k2 => k_mem); (case k3 => omega); k_whole)))
theorem heap_prefix {key : Addr → T3} {as : List Addr} {y : Addr} (h : IsHeap key (as ++ [y])) : IsHeap key as := by
  intro i a b
  have := h i a (by simp; omega)
  have hp : par i < as.length := by unfold par; omega
  have e : ∀ j, j < as.length → kat key (as ++ [y]) j = kat key as j := fun j hj => by
    unfold kat; simp [List.getD_eq_getElem?_getD, List.getElem?_append, hj]
  rwa [e _ b, e _ hp] at this
theorem heap_min_mem {key : Addr → T3} {as : List Addr} (h : IsHeap key as) : ∀ y ∈ as, tle (key (as.getD 0 0)) (key y) := fun y hy => by
  obtain ⟨i, hi, rfl⟩ := List.mem_iff_getElem.mp hy
  have := heap_min h i hi
  unfold kat at this
  simpa [List.getD_eq_getElem?_getD, hi] using this
theorem heappush_spec {w : World} {mean : ExcName → Option Value} {mg mb : Str → Option Value} {dp un : Nat} {gd : Option (List Code)} {cn : Str} {cs : Scope} {a : Addr} {ccd : Value} {cl : List (Str × Addr)} {outer : List Env} {A₀ : Around} {base h₀ : Heap} {L : Addr} {m : Str → Option Value} {s : Shared} {Q E : Value → Shared → Prop}
  {l x : Addr} {n : Nat} {as : List Addr} {rest : List (Addr × Obj)} {key : Addr → T3}
  (hB : Below A₀ base outer h₀) (F : Fr h₀ L s.heap m) (X : (hd.heap_39 w.params).In h₀) (N : News h₀ L s.heap ((l, listOf (refsOf as) n) :: rest)) (hT : Top hd.view_39 (looseW hd.view_39 []) mean mg mb h₀) (hk : cs.kind = .function)
  (hne : ∀ p ∈ rest, p.1 ≠ l) (htup : ∀ a ∈ as, TupOK rest key a) (hx : TupOK rest key x) (hlen : as.length < 1000000) (hh : IsHeap key as) (hdp : dp + 2 < recursionLimit) (hun : un + 16 < cLine)
  (hret : ∀ as' h' tk', Fr h₀ L h' m → News h₀ L h' ((l, listOf (refsOf as') (n + 1)) :: rest) → as'.Perm (as ++ [x]) → IsHeap key as' → Q .none { s with heap := h', toks := tk' }) :
  wpAny (model Challenge.rw_mq0079_01.row.prog w) (ktrTop dp un gd cn cs L a ccd cl outer) (call (.ref 28) [.ref l, .ref x]) Q E s := by
  k_with_none
  k_with "call ref cons nil" => (refine Stop.out ?_)
  revert X; k_fill; intro X
  refine wpAny_call ?_
  k_dflt ktr_enter
  have hl1 : (as ++ [x]).length = as.length + 1 := by simp
  k_steps
  refine Stop.mk ?_
  rename News _ _ _ _ => N3
  have htup' : ∀ a ∈ as ++ [x], TupOK rest key a := fun a ha => by
    rcases List.mem_append.mp ha with ha | ha
    · exact htup a ha
    · rw [List.mem_singleton.mp ha]; exact hx
  have hsd : SDInv key (as ++ [x]) as.length ((as ++ [x]).getD as.length 0) := by
    have e : (as ++ [x]).getD as.length 0 = x := by simp [List.getD_eq_getElem?_getD]
    rw [e]; exact push_start hh
  k_dflt (refine' siftdown_spec as.length ?kB ?kF ?kX N3 ?kT ?kk hne htup' ?kp ?kl ?kl2 hsd ?kd ?ku ?kR; (case kB => k_asm); (case kF => k_asm); (case kX => k_asm); (case kT => k_asm); (case kk => exact rfl); (case kp => omega); (case kl => omega); (case kl2 => omega); (case kd => ktr_room); (case ku => ktr_units))
  intro as' h9 tk9 F9 N9 hp9 hh9
  k_steps
  rename Fr h₀ _ _ _ => F4
  rename News h₀ _ _ _ => N4
  exact hret _ _ _ F4 N4 hp9 hh9
theorem heappop_spec {w : World} {mean : ExcName → Option Value} {mg mb : Str → Option Value} {dp un : Nat} {gd : Option (List Code)} {cn : Str} {cs : Scope} {a : Addr} {ccd : Value} {cl : List (Str × Addr)} {outer : List Env} {A₀ : Around} {base h₀ : Heap} {L : Addr} {m : Str → Option Value} {s : Shared} {Q E : Value → Shared → Prop}
  {l : Addr} {n : Nat} {as : List Addr} {rest : List (Addr × Obj)} {key : Addr → T3}
  (hB : Below A₀ base outer h₀) (F : Fr h₀ L s.heap m) (X : (hd.heap_39 w.params).In h₀) (N : News h₀ L s.heap ((l, listOf (refsOf as) n) :: rest)) (hT : Top hd.view_39 (looseW hd.view_39 []) mean mg mb h₀) (hk : cs.kind = .function)
  (hne : ∀ p ∈ rest, p.1 ≠ l) (htup : ∀ a ∈ as, TupOK rest key a) (hne0 : as ≠ []) (hlen : as.length < 1000000) (hh : IsHeap key as) (hdp : dp + 3 < recursionLimit) (hun : un + 24 < cLine)
  (hret : ∀ x as' h' n' tk', Fr h₀ L h' m → News h₀ L h' ((l, listOf (refsOf as') n') :: rest) → (x :: as').Perm as → IsHeap key as' → (∀ y ∈ as', tle (key x) (key y)) → Q (.ref x) { s with heap := h', toks := tk' }) :
  wpAny (model Challenge.rw_mq0079_01.row.prog w) (ktrTop dp un gd cn cs L a ccd cl outer) (call (.ref 35) [.ref l]) Q E s := by
  k_with_none
  k_with "call ref cons nil" => (refine Stop.out ?_)
  revert X; k_fill; intro X
  refine wpAny_call ?_
  obtain ⟨bs, y, rfl⟩ : ∃ bs y, as = bs ++ [y] := ⟨as.dropLast, as.getLast hne0, (List.dropLast_concat_getLast hne0).symm⟩
  have hl1 : (bs ++ [y]).length = bs.length + 1 := by simp
  have htb : ∀ a ∈ bs, TupOK rest key a := fun a ha => htup a (List.mem_append.mpr (.inl ha))
  have hty : TupOK rest key y := htup y (by simp)
  by_cases hb : 0 < bs.length
  · k_dflt ktr_enter
    k_steps
    · rename List.isEmpty _ = true => hc
      rw [List.isEmpty_iff] at hc
      simp [hc] at hb
    · refine Stop.mk ?_
      rename News _ _ _ _ => N3
      have e0 : Int.toNat 0 = 0 := rfl
      simp only [e0] at N3
      k_dflt (refine' siftup_spec ?kB ?kF ?kX N3 ?kT ?kk hne (tups_set htb hty) ?kl ?kl2 (su_start (heap_prefix hh)) ?kd ?ku ?kR; (case kB => k_asm); (case kF => k_asm); (case kX => k_asm); (case kT => k_asm); (case kk => exact rfl); (case kl => (rw [List.length_set]; exact hb)); (case kl2 => (rw [List.length_set]; omega)); (case kd => ktr_room); (case ku => ktr_units))
      intro as' h9 tk9 F9 N9 hp9 hh9
      k_steps
      rename Fr h₀ _ _ _ => F4
      rename News h₀ _ _ _ => N4
      simp only [e0]
      have hperm : (bs.getD 0 0 :: as').Perm (bs ++ [y]) := by
        refine (hp9.cons _).trans ?_
        cases bs with
        | nil => simp at hb
        | cons b bs =>
          show (b :: y :: bs).Perm (b :: (bs ++ [y]))
          exact (List.perm_append_singleton y bs).symm.cons b
      refine hret _ _ _ _ _ F4 N4 hperm hh9 fun z hz => ?_
      have := heap_min_mem hh z (hperm.mem_iff.mp (.tail _ hz))
      have e : (bs ++ [y]).getD 0 0 = bs.getD 0 0 := by simp [List.getD_eq_getElem?_getD, List.getElem?_append, hb]
      rwa [e] at this
  · obtain rfl : bs = [] := List.eq_nil_of_length_eq_zero (by omega)
    k_dflt ktr_enter
    k_steps
    rename Fr h₀ _ _ _ => F4
    rename News h₀ _ _ _ => N4
    exact hret _ [] _ _ _ F4 N4 (List.Perm.refl _) (fun i a b => absurd b (by simp)) (fun z hz => nomatch hz)
end Mine
end PartHQ
section PartBitsP
namespace Mine
open PySem
theorem nat_xor_and : ∀ a b : Nat, (a ^^^ b) + 2 * (a &&& b) = a + b := by
  intro a
  induction a using Nat.strongRecOn with
  | ind a ih =>
    intro b
    by_cases h : a = 0
    · subst h; simp
    · have := ih (a / 2) (by omega) (b / 2)
      have h1 : (a ^^^ b) / 2 = a / 2 ^^^ b / 2 := Nat.xor_div_two
      have h2 : (a &&& b) / 2 = a / 2 &&& b / 2 := Nat.and_div_two
      have h3 : (a ^^^ b) % 2 = (a + b) % 2 := by
        have := @Nat.xor_mod_two_pow a b 1
        simp only [Nat.pow_one] at this
        rw [this, Nat.add_mod]
        rcases Nat.mod_two_eq_zero_or_one a with h | h <;> rcases Nat.mod_two_eq_zero_or_one b with k | k <;> rw [h, k] <;> rfl
      have h4 : (a &&& b) % 2 = a % 2 * (b % 2) := by
        have e : (a &&& b) % 2 = (a % 2) &&& (b % 2) := by
          have := @Nat.and_mod_two_pow a b 1
          simpa using this
        rw [e]
        rcases Nat.mod_two_eq_zero_or_one a with h | h <;> rcases Nat.mod_two_eq_zero_or_one b with k | k <;> rw [h, k] <;> rfl
      rcases Nat.mod_two_eq_zero_or_one a with h5 | h5 <;> rcases Nat.mod_two_eq_zero_or_one b with k | k <;> rw [h5, k] at h4 <;> omega

theorem bitAnd_nat (a b : Nat) : Builtin.bitAnd (a : Int) (b : Int) = ((a &&& b : Nat) : Int) := by
  unfold Builtin.bitAnd
  simp
theorem bitXor_nat (a b : Nat) : Builtin.bitXor (a : Int) (b : Int) = ((a ^^^ b : Nat) : Int) := by
  rw [PyProof.Rows.bitXor_and, bitAnd_nat]
  have := nat_xor_and a b
  omega

def stepN (x : Nat) : Nat := if x % 2 = 1 then (x / 2) ^^^ 3988292384 else x / 2
def itN : Nat → Nat → Nat
  | 0, x => x
  | n + 1, x => stepN (itN n x)
def fitStep (c n : Nat) : Nat := (c / 256) ^^^ itN 8 ((c % 256) ^^^ n)
end Mine
end PartBitsP
section PartGC
set_option maxRecDepth 100000
set_option maxHeartbeats 8000000
set_option pp.deepTerms false
set_option pp.deepTerms.threshold 5
set_option pp.maxSteps 20000
namespace Mine
theorem shr_nat (d k : Nat) (ki : Int) (hk : ki = k) : (d : Int).fdiv (2 ^ Int.toNat ki) = ((d / 2 ^ k : Nat) : Int) := by
  subst hk
  rw [Int.toNat_natCast, Int.fdiv_eq_ediv_of_nonneg _ (by exact Int.le_of_lt (kbt_pos k))]
  simp
theorem gc_odd {d : Nat} (h : Builtin.bitAnd (d : Int) 1 ≠ 0) : Builtin.bitXor ((d : Int).fdiv (2 ^ Int.toNat 1)) 3988292384 = (stepN d : Nat) := by
  have h1 : ((d : Int)).fdiv (2 ^ Int.toNat 1) = ((d / 2 : Nat) : Int) := shr_nat d 1 1 rfl
  rw [h1, show (3988292384 : Int) = ((3988292384 : Nat) : Int) from rfl, bitXor_nat]
  rw [bitAnd_m1] at h
  unfold stepN
  rw [if_pos (by omega)]
theorem gc_even {d : Nat} (h : Builtin.bitAnd (d : Int) 1 = 0) : (d : Int).fdiv (2 ^ Int.toNat 1) = (stepN d : Nat) := by
  have h1 : ((d : Int)).fdiv (2 ^ Int.toNat 1) = ((d / 2 : Nat) : Int) := shr_nat d 1 1 rfl
  rw [h1]
  rw [bitAnd_m1] at h
  unfold stepN
  rw [if_neg (by omega)]
local macro_rules | `(tactic| walk_at "InvEndN") => `(tactic| (refine Stop.out ?_))
theorem gen_crc_spec {w : World} {mean : ExcName → Option Value} {mg mb : Str → Option Value} {dp un : Nat} {gd : Option (List Code)} {cn : Str} {cs : Scope} {a : Addr} {ccd : Value} {cl : List (Str × Addr)} {outer : List Env} {A₀ : Around} {base h₀ : Heap} {L : Addr} {m : Str → Option Value} {s : Shared} {Q E : Value → Shared → Prop}
  {news : List (Addr × Obj)} {ci : Int} {t : Tok} (c : Nat)
  (hB : Below A₀ base outer h₀) (F : Fr h₀ L s.heap m) (X : (hd.heap_39 w.params).In h₀) (N : News h₀ L s.heap news) (hT : Top hd.view_39 (looseW hd.view_39 []) mean mg mb h₀) (hk : cs.kind = .function)
  (hci : ci = (c : Int)) (hdp : dp + 1 < recursionLimit) (hun : un + 8 < cLine)
  (hret : ∀ t h' tk', Fr h₀ L h' m → News h₀ L h' news → Q (.int (itN 8 c : Nat) t) { s with heap := h', toks := tk' }) :
  wpAny (model Challenge.rw_mq0079_01.row.prog w) (ktrTop dp un gd cn cs L a ccd cl outer) (call (.ref 21) [.int ci t]) Q E s := by
  subst hci
  k_with_none
  k_with "exec For Name Call cons nil" => kpr_for
  k_with "pyIter ref" => (refine Stop.out ?_)
  revert X; k_fill; intro X
  refine wpAny_call ?_
  k_dflt ktr_enter
  k_steps
  refine Stop.mk ?_
  rename Fr _ _ _ _ => F1
  rename News _ _ _ _ => N1
  rename IsRange _ _ _ _ _ _ _ _ => R1
  with_unfolding_all refine' kst_range (σ := Nat × Tok) (n := 8) (fun _ => news) (fun d => [(Str.ofString "crc", Value.int (d.1 : Int) d.2)]) (fun _ => True) [] (fun pre d => d.1 = itN pre.length c) (c, t) (by rfl) R1 (by decide) (by rfl) F1 N1 trivial ?_ rfl ?_ ?_
  · kst_all
  · rintro ⟨d, td⟩ pre k tk u h3 tk3 own hk1 hk2 hoff - hP F2 N2
    dsimp only at hP F2 N2 ⊢
    clear F1 N1
    k_steps
    · rename Fr _ _ _ _ => F3
      rename News _ _ _ _ => N3
      rename Builtin.bitAnd _ _ ≠ 0 => hb
      rw [gc_odd hb] at F3
      refine Stop.mk ?_
      refine' kst_end (stepN d, ?t1) F3 N3 (fun p hp => List.mem_append.mpr (.inl hp)) (fun p hp => List.mem_append.mpr (.inr hp)) rfl trivial ?b ?c ?d
      case b => kst_all
      case c =>
        intro z h1 h2 h3
        have n1 : z ≠ Str.ofString "crc" := h2 _ (.head _)
        simp only [kstB, if_neg n1, if_neg h1, h3, Bool.false_eq_true, if_false]
      case d => dsimp only; rw [hP, List.length_append]; rfl
    · rename Fr _ _ _ _ => F3
      rename News _ _ _ _ => N3
      rename Builtin.bitAnd _ _ = 0 => hb
      rw [gc_even hb] at F3
      refine Stop.mk ?_
      refine' kst_end (stepN d, ?t2) F3 N3 (fun p hp => List.mem_append.mpr (.inl hp)) (fun p hp => List.mem_append.mpr (.inr hp)) rfl trivial ?b ?c ?d
      case b => kst_all
      case c =>
        intro z h1 h2 h3
        have n1 : z ≠ Str.ofString "crc" := h2 _ (.head _)
        simp only [kstB, if_neg n1, if_neg h1, h3, Bool.false_eq_true, if_false]
      case d => dsimp only; rw [hP, List.length_append]; rfl
  · rintro ⟨d, td⟩ u h3 tk3 - hP F2 N2
    dsimp only at hP F2 N2 ⊢
    clear F1 N1
    k_steps
    rename Fr h₀ _ _ _ => F4
    rename News h₀ _ _ _ => N4
    have e : (rangeKs 0 8).length = 8 := rfl
    rw [hP, e]
    exact hret _ _ _ F4 N4
end Mine
end PartGC
section PartFI
set_option maxRecDepth 100000
set_option maxHeartbeats 8000000
set_option pp.deepTerms false
set_option pp.deepTerms.threshold 5
set_option pp.maxSteps 20000
namespace Mine
local macro_rules | `(tactic| walk_at "InvEndN") => `(tactic| (refine Stop.out ?_))
abbrev zs (ns : List Nat) : List Int := ns.map (fun k : Nat => (k : Int))
theorem fits_arg (d k : Nat) : Builtin.bitXor (Builtin.bitAnd (d : Int) 255) (k : Int) = (((d % 256) ^^^ k : Nat) : Int) := by
  rw [bitAnd_m8, show (d : Int) % 256 = ((d % 256 : Nat) : Int) by omega, bitXor_nat]
theorem fits_next (d k : Nat) : Builtin.bitXor ((d : Int).fdiv (2 ^ Int.toNat 8)) (itN 8 ((d % 256) ^^^ k) : Nat) = (fitStep d k : Nat) := by
  rw [shr_nat d 8 8 rfl, bitXor_nat]
  rfl
theorem fits_spec {w : World} {mean : ExcName → Option Value} {mg mb : Str → Option Value} {dp un : Nat} {gd : Option (List Code)} {cn : Str} {cs : Scope} {a : Addr} {ccd : Value} {cl : List (Str × Addr)} {outer : List Env} {A₀ : Around} {base h₀ : Heap} {L : Addr} {m : Str → Option Value} {s : Shared} {Q E : Value → Shared → Prop}
  {news : List (Addr × Obj)} {r : Addr} {vs : List Value} {nr : Nat} {ns : List Nat} {ck : Int} {t : Tok}
  (hB : Below A₀ base outer h₀) (F : Fr h₀ L s.heap m) (X : (hd.heap_39 w.params).In h₀) (N : News h₀ L s.heap news) (hT : Top hd.view_39 (looseW hd.view_39 []) mean mg mb h₀) (hk : cs.kind = .function)
  (hr : (r, listOf vs.toArray nr) ∈ news) (hi : IntsAre vs (zs ns)) (hdp : dp + 2 < recursionLimit) (hun : un + 16 < cLine)
  (hret : ∀ h' tk', Fr h₀ L h' m → News h₀ L h' news → Q (.bool (decide ((((ns.foldl fitStep 4294967295) ^^^ 4294967295 : Nat) : Int) = ck))) { s with heap := h', toks := tk' }) :
  wpAny (model Challenge.rw_mq0079_01.row.prog w) (ktrTop dp un gd cn cs L a ccd cl outer) (call (.ref 80) [.ref r, .int ck t]) Q E s := by
  k_with_none
  k_with "pyIter ref" => (refine Stop.out ?_)
  k_with "call ref cons nil" => (refine Stop.out ?_)
  revert X; k_fill; intro X
  refine wpAny_call ?_
  k_dflt ktr_enter
  k_steps
  refine Stop.mk ?_
  rename Fr _ _ _ _ => F1
  rename News _ _ _ _ => N1
  with_unfolding_all refine' kst_listL (σ := Nat × Tok) (ns := zs ns) (fun _ => news) (fun d => [(Str.ofString "crc", Value.int (d.1 : Int) d.2)]) (fun _ => True) [] (fun pre d => d.1 = (pre.map Int.toNat).foldl fitStep 4294967295) (4294967295, ?t0) (by rfl) (fun _ => hr) hi F1 N1 trivial ?ka rfl ?kb ?kc
  case ka => kst_all
  case kb =>
    rintro ⟨d, td⟩ pre post n tn u h3 tk3 own hk1 hk2 hoff - hP F2 N2
    dsimp only at hP F2 N2 ⊢
    clear F1 N1
    obtain ⟨k, hk3, rfl⟩ := List.mem_map.mp hk2
    k_steps
    refine Stop.mk ?_
    k_dflt (refine' gen_crc_spec ((d % 256) ^^^ k) ?kB ?kF ?kX N2 ?kT ?kk (fits_arg d k) ?kd ?ku ?kR; (case kB => k_asm); (case kF => k_asm); (case kX => k_asm); (case kT => k_asm); (case kk => exact rfl); (case kd => ktr_room); (case ku => ktr_units))
    intro t9 h9 tk9 F9 N9
    k_steps
    rename Fr _ _ _ _ => F3
    rename News _ _ _ _ => N3
    rw [fits_next] at F3
    refine Stop.mk ?_
    refine' kst_end (fitStep d k, ?t1) F3 N3 (fun p hp => List.mem_append.mpr (.inl hp)) (fun p hp => List.mem_append.mpr (.inr hp)) rfl trivial ?q1 ?q2 ?q3
    case q1 => kst_all
    case q2 =>
      intro z h1 h2 h3
      have n1 : z ≠ Str.ofString "crc" := h2 _ (.head _)
      simp only [kstB, if_neg n1, if_neg h1, h3, Bool.false_eq_true, if_false]
    case q3 => dsimp only; rw [hP, List.map_append, List.foldl_append]; rfl
  case kc =>
    rintro ⟨d, td⟩ u h3 tk3 - hP F2 N2
    dsimp only at hP F2 N2 ⊢
    clear F1 N1
    k_steps
    rename Fr h₀ _ _ _ => F4
    rename News h₀ _ _ _ => N4
    have e1 : ((zs ns).map Int.toNat) = ns := by simp [zs, Function.comp_def]
    rw [e1] at hP
    subst hP
    have e2 : (2 : Int) ^ Int.toNat 32 - 1 = ((4294967295 : Nat) : Int) := by decide
    rw [e2, bitXor_nat]
    exact hret _ _ F4 N4
end Mine
end PartFI
section PartFL
set_option maxRecDepth 100000
set_option maxHeartbeats 1000000
set_option pp.deepTerms false
set_option pp.deepTerms.threshold 5
set_option pp.maxSteps 20000
namespace Mine
local macro_rules | `(tactic| walk_at "InvEndN") => `(tactic| (refine Stop.out ?_))
def flipOne (ns : List Nat) (b : Nat) : List Nat := ns.set (b / 8) (ns.getD (b / 8) 0 ^^^ 2 ^ (b % 8))
def flipTo (ns bs : List Nat) (c : Nat) : Nat → List Nat
  | 0 => ns
  | k + 1 => if c / 2 ^ k % 2 = 1 then flipOne (flipTo ns bs c k) (bs.getD k 0) else flipTo ns bs c k
theorem flipTo_length (ns bs : List Nat) (c : Nat) : ∀ k, (flipTo ns bs c k).length = ns.length
  | 0 => rfl
  | k + 1 => by
    rw [flipTo]; split
    · rw [flipOne, List.length_set]; exact flipTo_length ns bs c k
    · exact flipTo_length ns bs c k
section
variable {prog : Program} {w : World} {A : Around} {E : Value → Shared → Prop} {s : Shared} {h₀ : Heap} {L : Addr} {m : Str → Option Value}
theorem zs_getD (ns : List Nat) (k : Nat) : (zs ns).getD k 0 = ((ns.getD k 0 : Nat) : Int) := by
  simp only [List.getD_eq_getElem?_getD, zs, List.getElem?_map]
  cases ns[k]? <;> simp
theorem zs_set (ns : List Nat) (k x : Nat) : (zs ns).set k (x : Int) = zs (ns.set k x) := by simp [zs, List.map_set]
theorem item_zs {l : Addr} {vs : List Value} {ns : List Nat} {n : Nat} {news : List (Addr × Obj)} {value slice : PySem.Expr} {k : Int} {u : Tok} {Q : Value → Shared → Prop} (N : News h₀ L s.heap news) (hm : (l, listOf vs.toArray n) ∈ news)
    (hi : IntsAre vs (zs ns)) (h0 : 0 ≤ k) (hk : k < ns.length) (hfit : k < 2 ^ 63) (h : ∀ t, Q (.int ((ns.getD k.toNat 0 : Nat) : Int) t) s)
    (hs : subscripted slice false (.ref l) (.int k u) = operate [.ref l, .int k u] (getItem (.ref l) (.int k u)) := by with_unfolding_all rfl) :
    wpAny (model prog w) A (subscriptTail value slice (.ref l) (.int k u)) Q E s :=
  ksa_sub N hm hi h0 (by simpa [zs] using hk) hfit (fun t => by rw [zs_getD]; exact h t) hs
theorem set_zs {l : Addr} {vs : List Value} {ns : List Nat} {n : Nat} {rest : List (Addr × Obj)} {k x : Int} {t u : Tok} {Q : Unit → Shared → Prop} (xn : Nat) (F : Fr h₀ L s.heap m) (N : News h₀ L s.heap ((l, listOf vs.toArray n) :: rest)) (hne : ∀ p ∈ rest, p.1 ≠ l)
    (hi : IntsAre vs (zs ns)) (hx : x = (xn : Int)) (h0 : 0 ≤ k) (hk : k < ns.length) (hfit : k < 2 ^ 63)
    (h : ∀ h', Fr h₀ L h' m → News h₀ L h' ((l, listOf (vs.set k.toNat (.int x u)).toArray n) :: rest) → IntsAre (vs.set k.toNat (.int x u)) (zs (ns.set k.toNat xn)) → Q () { s with heap := h' }) :
    wpAny (model prog w) A (setItem (.ref l) (.int k t) (.int x u)) Q E s :=
  ksa_set F N (Upd.head hne) hi h0 (by simpa [zs] using hk) hfit (fun h' F' N' hI' _ _ => h h' F' N' (by rw [← zs_set, ← hx]; exact hI'))
theorem fdiv_nat (x k : Nat) (ki : Int) (hk : ki = k) : (x : Int).fdiv ki = ((x / k : Nat) : Int) := by
  subst hk; rw [Int.fdiv_eq_ediv_of_nonneg _ (by omega)]; simp
theorem fmod_nat (x k : Nat) (ki : Int) (hk : ki = k) : (x : Int).fmod ki = ((x % k : Nat) : Int) := by
  subst hk; rw [Int.fmod_eq_emod_of_nonneg _ (by omega)]; simp
theorem pow_nat (k : Nat) : (2 : Int) ^ k = ((2 ^ k : Nat) : Int) := by simp
end
theorem flip_val (x b : Nat) : Builtin.bitXor (x : Int) (2 ^ ((b : Int).fmod 8).toNat) = ((x ^^^ 2 ^ (b % 8) : Nat) : Int) := by
  rw [fmod_nat b 8 8 rfl, Int.toNat_natCast, pow_nat, bitXor_nat]
theorem flip_test (c k : Nat) : ((c : Int).fdiv (2 ^ k)).fmod 2 = ((c / 2 ^ k % 2 : Nat) : Int) := by
  rw [pow_nat, fdiv_nat c (2 ^ k) _ rfl, fmod_nat _ 2 2 rfl]
local macro_rules | `(tactic| ktr_rel) => `(tactic| first | exact List.Mem.head _ | assumption | solve_by_elim)
local macro_rules | `(tactic| walk_at "subscriptTail Name Name ref int") => `(tactic| (k_here; (with_reducible show wpAny _ _ (subscriptTail _ _ (Value.ref _) (Value.int _ _)) _ _ _); k_dflt (refine' item_zs ?k1 ?k2 ?k8 ?k3 ?k4 ?k5 ?_ ?k6; (case k1 => k_asm); (case k2 => ktr_rel); (case k8 => assumption); (case k3 => omega); (case k4 => omega); (case k5 => omega); (case k6 => with_unfolding_all rfl); k_whole); intro _))
local macro_rules | `(tactic| walk_at "setItem ref int int") => `(tactic| (k_here; k_dflt (refine' set_zs _ ?k1 ?k2 ?k3 ?k7 ?k8 ?k4 ?k5 ?k6 ?_; (case k1 => k_asm); (case k2 => k_asm); (case k3 => assumption); (case k7 => assumption); (case k8 => exact flip_val _ _); (case k4 => omega); (case k5 => omega); (case k6 => omega); k_whole); intro h' F' N' hI'; (try k_sweep)))
theorem flipped_spec {w : World} {mean : ExcName → Option Value} {mg mb : Str → Option Value} {dp un : Nat} {gd : Option (List Code)} {cn : Str} {cs : Scope} {a : Addr} {ccd : Value} {cl : List (Str × Addr)} {outer : List Env} {A₀ : Around} {base h₀ : Heap} {L : Addr} {m : Str → Option Value} {s : Shared} {Q E : Value → Shared → Prop}
  {news : List (Addr × Obj)} {r b : Addr} {vs bvs : List Value} {nr nb : Nat} {ns bs : List Nat} {ci : Int} {t : Tok} (c : Nat)
  (hB : Below A₀ base outer h₀) (F : Fr h₀ L s.heap m) (X : (hd.heap_39 w.params).In h₀) (N : News h₀ L s.heap news) (hT : Top hd.view_39 (looseW hd.view_39 []) mean mg mb h₀) (hk : cs.kind = .function)
  (hr : (r, listOf vs.toArray nr) ∈ news) (hi : IntsAre vs (zs ns)) (hb : (b, listOf bvs.toArray nb) ∈ news) (hbi : IntsAre bvs (zs bs)) (hci : ci = (c : Int))
  (hbl : bs.length = 4) (hnl : ns.length = 5) (hbb : ∀ x ∈ bs, x < 40) (hdp : dp + 2 < recursionLimit) (hun : un + 16 < cLine)
  (hret : ∀ D ws h' n' tk', Fr h₀ L h' m → News h₀ L h' ((D, listOf ws.toArray n') :: news) → (∀ q ∈ news, q.1 < D) → IntsAre ws (zs (flipTo ns bs c 4)) → Q (.ref D) { s with heap := h', toks := tk' }) :
  wpAny (model Challenge.rw_mq0079_01.row.prog w) (ktrTop dp un gd cn cs L a ccd cl outer) (call (.ref 73) [.ref r, .ref b, .int ci t]) Q E s := by
  subst hci
  k_with_none
  k_with "exec For Name Call cons nil" => kpr_for
  k_with "pyIter ref" => (refine Stop.out ?_)
  k_with "call type:list cons nil" => (refine Stop.out ?_)
  k_with "call ref cons nil" => (refine Stop.out ?_)
  revert X; k_fill; intro X
  refine wpAny_call ?_
  k_dflt ktr_enter
  k_steps
  refine Stop.mk ?_
  have hvl : vs.length = 5 := by rw [hi.length]; simpa [zs] using hnl
  rename Fr _ _ _ _ => F1
  rename News _ _ _ _ => N1
  refine list_copyK F1 N1 (PySem.IsL.isList (n := nr) (N1 _ hr).1) ?_ (by rw [sizeLine_eq]; simp; omega)
  intro D c0 h1 F2 N2 hD
  clear F1 N1
  k_steps
  refine Stop.mk ?_
  rename Fr _ _ _ _ => F1
  rename News _ _ _ _ => N1
  rename IsRange _ _ _ _ _ _ _ _ => R1
  with_unfolding_all refine' kst_range (σ := List Value × List Nat) (n := 4) (fun d => (D, listOf d.1.toArray c0) :: news) (fun _ => []) (fun d => IntsAre d.1 (zs d.2)) [Str.ofString "spot"] (fun pre d => d.2 = flipTo ns bs c pre.length) (vs, ns) (by rfl) R1 (by decide) (by rfl) F1 N1 hi ?_ rfl ?_ ?_
  · kst_all
  · rintro ⟨us, ms⟩ pre k tk u h3 tk3 own hk1 hk2 hoff hI hP F2 N2
    dsimp only at hI hP F2 N2 ⊢
    clear F1 N1
    have hkN : k.toNat = pre.length := by omega
    have hml : ms.length = 5 := by rw [hP, flipTo_length]; exact hnl
    have hx40 : bs.getD pre.length 0 < 40 := hbb _ (by simp [List.getD_eq_getElem?_getD, hbl, hk2])
    have hs8 : ((bs.getD k.toNat 0 : Nat) : Int).fdiv 8 = ((bs.getD pre.length 0 / 8 : Nat) : Int) := by rw [hkN]; exact fdiv_nat _ 8 8 rfl
    have hs9 : (((bs.getD k.toNat 0 : Nat) : Int).fdiv 8).toNat = bs.getD pre.length 0 / 8 := by rw [hs8]; omega
    have hneD : ∀ p ∈ news ++ own, p.1 ≠ D := fun p hp => by
      rcases List.mem_append.mp hp with hp | hp
      · exact Nat.ne_of_lt (hD p hp)
      · exact hoff p hp D (by simp)
    have hbm : ∀ q : Addr × Obj, (b, listOf bvs.toArray nb) ∈ q :: (news ++ own) := fun q => .tail _ (List.mem_append.mpr (.inl hb))
    k_steps
    · rename Fr _ _ _ _ => F3
      rename News _ _ _ _ => N3
      rename IntsAre _ (zs (List.set _ _ _)) => hI2
      rename Int.fmod _ _ = 1 => ht
      refine Stop.mk ?_
      refine' kst_end (_, _) F3 N3 ?h1 ?h2 ?ha hI2 ?q1 ?q2 ?q3
      case ha => rfl
      case h1 => exact fun p hp => (List.mem_cons.mp hp).elim (fun e => e ▸ .head _) fun hp => .tail _ (List.mem_append.mpr (.inl hp))
      case h2 => exact fun p hp => .tail _ (List.mem_append.mpr (.inr hp))
      case q1 => exact fun p hp => nomatch hp
      case q2 =>
        intro z h1 h2 h3
        have n1 : z ≠ Str.ofString "spot" := fun e => by subst e; simp at h3
        simp only [kstB, if_neg n1, if_neg h1, h3, Bool.false_eq_true, if_false]
      case q3 =>
        dsimp only
        rw [hkN, flip_test] at ht
        rw [List.length_append, List.length_singleton, flipTo, if_pos (by omega), ← hP, flipOne, hs9, hkN]
    · rename Fr _ _ _ _ => F3
      rename News _ _ _ _ => N3
      rename Int.fmod _ _ ≠ 1 => ht
      refine Stop.mk ?_
      refine' kst_end (us, ms) F3 N3 ?h3 ?h4 rfl hI ?q4 ?q5 ?q6
      case h3 => exact fun p hp => (List.mem_cons.mp hp).elim (fun e => e ▸ .head _) fun hp => .tail _ (List.mem_append.mpr (.inl hp))
      case h4 => exact fun p hp => .tail _ (List.mem_append.mpr (.inr hp))
      case q4 => exact fun p hp => nomatch hp
      case q5 =>
        intro z h1 h2 h3
        simp only [kstB, if_neg h1, h3, Bool.false_eq_true, if_false]
      case q6 =>
        dsimp only
        rw [hkN, flip_test] at ht
        rw [List.length_append, List.length_singleton, flipTo, if_neg (by omega), ← hP]
  · rintro ⟨us, ms⟩ u h3 tk3 hI hP F2 N2
    dsimp only at hI hP F2 N2 ⊢
    clear F1 N1
    k_steps
    rename Fr h₀ _ _ _ => F4
    rename News h₀ _ _ _ => N4
    have e : (rangeKs 0 4).length = 4 := rfl
    rw [hP, e] at hI
    exact hret _ _ _ _ _ F4 N4 hD hI
end Mine
end PartFL
section PartCK
set_option maxRecDepth 100000
set_option maxHeartbeats 4000000
set_option pp.deepTerms false
set_option pp.deepTerms.threshold 5
set_option pp.maxSteps 20000
namespace Mine
local macro_rules | `(tactic| walk_at "InvEndN") => `(tactic| (refine Stop.out ?_))
def bitAt (ns : List Nat) (p : Nat) : Nat := if p < 40 then ns.getD (p / 8) 0 / 2 ^ (p % 8) % 2 else 0
def wholeTo (ns : List Nat) : Nat → Nat
  | 0 => 0
  | k + 1 => 2 * wholeTo ns k + (if k < 32 then 1 - bitAt ns k else bitAt ns k)
theorem bitAt_lt (ns : List Nat) (p : Nat) : bitAt ns p < 2 := by unfold bitAt; split <;> omega
theorem wholeTo_lt (ns : List Nat) : ∀ k, wholeTo ns k < 2 ^ k
  | 0 => Nat.one_pos
  | k + 1 => by
    have := wholeTo_lt ns k
    have := bitAt_lt ns k
    rw [wholeTo, Nat.pow_succ]
    split <;> omega
def divTo (x : Nat) : Nat → Nat
  | 0 => x
  | k + 1 => if divTo x k / 2 ^ (39 - k + 32) = 1 then divTo x k ^^^ (4374732215 * 2 ^ (39 - k)) else divTo x k
def ckZ (d : Nat) : Int := (List.map (fun k' : Int => 2 ^ (31 - k').toNat * (1 - ((d : Int).fdiv (2 ^ k'.toNat)).fmod 2)) (rangeKs 0 ((32 : Int) - 0).toNat)).sum
section
variable {prog : Program} {w : World} {A : Around} {E : Value → Shared → Prop} {s : Shared} {h₀ : Heap} {L : Addr} {m : Str → Option Value}
theorem len_five {l : Addr} {vs : List Value} {ns : List Nat} {n : Nat} {news : List (Addr × Obj)} {Q : Value → Shared → Prop} (N : News h₀ L s.heap news) (hm : (l, listOf vs.toArray n) ∈ news)
    (hi : IntsAre vs (zs ns)) (hl : ns.length = 5) (h : ∀ t tk, Q (.int 5 t) { s with toks := tk }) : wpAny (model prog w) A (call (.builtin "len") [.ref l]) Q E s := by
  have e : vs.toArray.size = 5 := by simp [hi.length, hl]
  refine len_list (items := vs.toArray) ⟨_, (N _ hm).1, rfl, n, rfl⟩ (by rw [e]; decide) (by rw [e]; exact h _ _)
theorem item_zs' {l : Addr} {vs : List Value} {ns : List Nat} {n : Nat} {news : List (Addr × Obj)} {value slice : PySem.Expr} {k : Int} {u : Tok} {Q : Value → Shared → Prop} (N : News h₀ L s.heap news) (hm : (l, listOf vs.toArray n) ∈ news)
    (hi : IntsAre vs (zs ns)) (h0 : 0 ≤ k) (hk : k < ns.length) (hfit : k < 2 ^ 63) (h : ∀ t tk, Q (.int ((ns.getD k.toNat 0 : Nat) : Int) t) { s with toks := tk })
    (hs : subscripted slice false (.ref l) (.int k u) = operate [.ref l, .int k u] (getItem (.ref l) (.int k u)) := by with_unfolding_all rfl) :
    wpAny (model prog w) A (subscriptTail value slice (.ref l) (.int k u)) Q E s :=
  item_zs N hm hi h0 hk hfit (fun t => h t s.toks) hs
end
local macro_rules | `(tactic| ktr_rel) => `(tactic| first | exact List.Mem.head _ | assumption | solve_by_elim)
local macro_rules | `(tactic| walk_at "subscriptTail Name BinOp ref int") => `(tactic| (k_here; (with_reducible show wpAny _ _ (subscriptTail _ _ (Value.ref _) (Value.int _ _)) _ _ _); k_dflt (refine' item_zs' ?k1 ?k2 ?k8 ?k3 ?k4 ?k5 ?_ ?k6; (case k1 => k_asm); (case k2 => ktr_rel); (case k8 => assumption); (case k3 => omega); (case k4 => omega); (case k5 => omega); (case k6 => with_unfolding_all rfl); k_whole); intro _ tk; (try dsimp only)))
local macro_rules | `(tactic| walk_at "call builtin:len") => `(tactic| (k_here; k_dflt (refine' len_five ?k1 ?k2 ?k3 ?k4 ?_; (case k1 => k_asm); (case k2 => ktr_rel); (case k3 => assumption); (case k4 => assumption); k_whole); intro _ tk; (try dsimp only)))
local macro_rules | `(tactic| k_all) => `(tactic| assumption)
local macro_rules | `(tactic| walk_at "CompSrc") => `(tactic| dsimp only)
local macro_rules | `(tactic| walk_at "execs cons") => `(tactic| dsimp only)
local macro_rules | `(tactic| walk_at "execs nil") => `(tactic| dsimp only)
local macro_rules | `(tactic| walk_at "binaryOp") => `(tactic| dsimp only)
theorem chk_bit {ns : List Nat} {p : Nat} {k : Int} (hk : k = 0 + (p : Int)) (h : k < 8 * 5) :
    (((ns.getD (k.fdiv 8).toNat 0 : Nat) : Int).fdiv (2 ^ (k.fmod 8).toNat)).fmod 2 = ((bitAt ns p : Nat) : Int) := by
  rw [Int.zero_add] at hk
  subst hk
  rw [fdiv_nat p 8 8 rfl, fmod_nat p 8 8 rfl, Int.toNat_natCast, Int.toNat_natCast, flip_test]
  unfold bitAt
  rw [if_pos (by omega)]
theorem chk1 {ns : List Nat} {d p : Nat} {k : Int} (hk : k = 0 + (p : Int)) (h : k < 8 * 5) (h2 : k < 32) :
    2 * (d : Int) + (1 - (((ns.getD (k.fdiv 8).toNat 0 : Nat) : Int).fdiv (2 ^ (k.fmod 8).toNat)).fmod 2) = ((2 * d + (if p < 32 then 1 - bitAt ns p else bitAt ns p) : Nat) : Int) := by
  rw [chk_bit hk h, if_pos (by omega)]
  have := bitAt_lt ns p
  omega
theorem chk2 {ns : List Nat} {d p : Nat} {k : Int} (hk : k = 0 + (p : Int)) (h : k < 8 * 5) (h2 : ¬ k < 32) :
    2 * (d : Int) + (((ns.getD (k.fdiv 8).toNat 0 : Nat) : Int).fdiv (2 ^ (k.fmod 8).toNat)).fmod 2 = ((2 * d + (if p < 32 then 1 - bitAt ns p else bitAt ns p) : Nat) : Int) := by
  rw [chk_bit hk h, if_neg (by omega)]
  omega
theorem chk3 {ns : List Nat} {d p : Nat} {k : Int} (hk : k = 0 + (p : Int)) (h : ¬ k < 8 * 5) :
    2 * (d : Int) + 0 = ((2 * d + (if p < 32 then 1 - bitAt ns p else bitAt ns p) : Nat) : Int) := by
  rw [if_neg (by omega)]
  unfold bitAt
  rw [if_neg (by omega)]
  omega
theorem chk4 {d p : Nat} {k : Int} (hk : k = 8 * 5 - 1 - (p : Int)) (hp : p < 40) : (d : Int).fdiv (2 ^ (k + 32).toNat) = ((d / 2 ^ (39 - p + 32) : Nat) : Int) := by
  have e : (k + 32).toNat = 39 - p + 32 := by omega
  rw [e, pow_nat, fdiv_nat d _ _ rfl]
theorem chk5 {d p : Nat} {k : Int} (hk : k = 8 * 5 - 1 - (p : Int)) (hp : p < 40) : Builtin.bitXor (d : Int) (4374732215 * 2 ^ k.toNat) = ((d ^^^ (4374732215 * 2 ^ (39 - p)) : Nat) : Int) := by
  have e : k.toNat = 39 - p := by omega
  have e2 : (4374732215 : Int) * 2 ^ (39 - p) = ((4374732215 * 2 ^ (39 - p) : Nat) : Int) := by rw [pow_nat]; simp
  rw [e, e2, bitXor_nat]
theorem check_spec {w : World} {mean : ExcName → Option Value} {mg mb : Str → Option Value} {dp un : Nat} {gd : Option (List Code)} {cn : Str} {cs : Scope} {a : Addr} {ccd : Value} {cl : List (Str × Addr)} {outer : List Env} {A₀ : Around} {base h₀ : Heap} {L : Addr} {m : Str → Option Value} {s : Shared} {Q E : Value → Shared → Prop}
  {news : List (Addr × Obj)} {r : Addr} {vs : List Value} {nr : Nat} {ns : List Nat}
  (hB : Below A₀ base outer h₀) (F : Fr h₀ L s.heap m) (X : (hd.heap_39 w.params).In h₀) (N : News h₀ L s.heap news) (hT : Top hd.view_39 (looseW hd.view_39 []) mean mg mb h₀) (hk : cs.kind = .function)
  (hr : (r, listOf vs.toArray nr) ∈ news) (hi : IntsAre vs (zs ns)) (hnl : ns.length = 5) (hdp : dp + 2 < recursionLimit) (hun : un + 16 < cLine)
  (hret : ∀ t h' tk', Fr h₀ L h' m → News h₀ L h' news → Q (.int (ckZ (divTo (wholeTo ns 72) 40)) t) { s with heap := h', toks := tk' }) :
  wpAny (model Challenge.rw_mq0079_01.row.prog w) (ktrTop dp un gd cn cs L a ccd cl outer) (call (.ref 66) [.ref r]) Q E s := by
  k_with_none
  k_with "exec For Name Call cons nil" => kpr_for
  k_with "pyIter ref" => (refine Stop.out ?_)
  k_with "call ref cons nil" => (refine Stop.out ?_)
  revert X; k_fill; intro X
  refine wpAny_call ?_
  k_dflt (refine' code_defC ?k1 ?k2 ?k3 ?k4 ?k5 ?kA ?kF ?kK ?k6 ?k7 ?k8 ?k9 ?kB ?kD ?_ ?c2 ?c3 ?c4; (case kA => exact rfl); (case kF => exact rfl); (case kK => assumption); (case k1 => k_asm); (case k2 => k_asm); (case k3 => k_asm); (case k4 => k_asm); (case k5 => k_asm); (case k6 => k_is); (case k7 => k_is); (case k8 => ktr_room); (case k9 => exact BindsTo.of_eq rfl); (case kB => exact rfl); (case kD => decide +kernel); (case c2 => exact rfl); (case c3 => exact rfl); (case c4 => exact rfl); k_whole; intro g' L' h' tk' cells' FG' F' N' Y' B' X' T' l1; k_cells Y'; (try simp only [List.cons_append, List.nil_append] at N'); (try dsimp only); (try k_fold))
  (show wpAny _ _ _ _ _ _)
  k_fold
  have hneC : ∀ p ∈ news, p.1 ≠ L' + 1 := fun p hp => Nat.ne_of_lt (Nat.lt_succ_of_lt (l1 p hp))
  k_steps
  refine Stop.mk ?_
  rename Fr _ _ _ _ => F1
  rename News _ _ _ _ => N1
  rename IsRange _ _ _ _ _ _ _ _ => R1
  rename Obj => o0
  rename o0.data = _ => hc0
  with_unfolding_all refine' kst_range (σ := Nat × Tok × Obj) (n := 72) (fun d => (L' + 1, d.2.2) :: news) (fun _ => []) (fun d => d.2.2.data = Data.cell (some (Value.int (d.1 : Int) d.2.1))) [Str.ofString "bit"] (fun pre d => d.1 = wholeTo ns pre.length) (0, _, o0) (by rfl) R1 (by decide) (by rfl) F1 N1 hc0 ?ka rfl ?kb ?kc
  case ka => kst_all
  case kb =>
    rintro ⟨d, td, od⟩ pre k tk u h3 tk3 own hk1 hk2 hoff hcd hP F2 N2
    dsimp only at hcd hP F2 N2 ⊢
    clear F1 N1
    try k_fold
    have hk8 : k.fdiv 8 = ((pre.length / 8 : Nat) : Int) := by rw [hk1, Int.zero_add]; exact fdiv_nat _ 8 8 rfl
    have hm8 : k.fmod 8 = ((pre.length % 8 : Nat) : Int) := by rw [hk1, Int.zero_add]; exact fmod_nat _ 8 8 rfl
    have hrm : ∀ q : Addr × Obj, (r, listOf vs.toArray nr) ∈ q :: (news ++ own) := fun q => .tail _ (List.mem_append.mpr (.inl hr))
    have hneC' : ∀ p ∈ news ++ own, p.1 ≠ L' + 1 := fun p hp => by
      rcases List.mem_append.mp hp with hp | hp
      · exact hneC p hp
      · exact hoff p hp (L' + 1) (by simp)
    k_steps
    · rename Fr _ _ _ _ => F3
      rename News _ _ _ _ => N3
      rename Obj.data _ = Data.cell (some (Value.int (HAdd.hAdd _ _) _)) => hc2
      rename k < 8 * 5 => hlt
      rename k < 32 => hlt2
      rw [chk1 hk1 hlt hlt2] at hc2
      refine Stop.mk ?_
      refine' kst_end (_, _, _) F3 N3 ?h1 ?h2 ?ha hc2 ?q1 ?q2 ?q3
      case ha => rfl
      case h1 => exact fun p hp => (List.mem_cons.mp hp).elim (fun e => e ▸ .head _) fun hp => .tail _ (List.mem_append.mpr (.inl hp))
      case h2 => exact fun p hp => .tail _ (List.mem_append.mpr (.inr hp))
      case q1 => exact fun p hp => nomatch hp
      case q2 =>
        intro z h1 h2 h3
        have n1 : z ≠ Str.ofString "bit" := fun e => by subst e; simp at h3
        simp only [kstB, if_neg n1, if_neg h1, h3, Bool.false_eq_true, if_false]
      case q3 =>
        dsimp only
        rw [List.length_append, List.length_singleton, wholeTo, ← hP]
    · rename Fr _ _ _ _ => F3
      rename News _ _ _ _ => N3
      rename Obj.data _ = Data.cell (some (Value.int (HAdd.hAdd _ _) _)) => hc2
      rename k < 8 * 5 => hlt
      rename ¬ k < 32 => hlt2
      rw [chk2 hk1 hlt hlt2] at hc2
      refine Stop.mk ?_
      refine' kst_end (_, _, _) F3 N3 ?h11 ?h12 ?ha1 hc2 ?q11 ?q12 ?q13
      case ha1 => rfl
      case h11 => exact fun p hp => (List.mem_cons.mp hp).elim (fun e => e ▸ .head _) fun hp => .tail _ (List.mem_append.mpr (.inl hp))
      case h12 => exact fun p hp => .tail _ (List.mem_append.mpr (.inr hp))
      case q11 => exact fun p hp => nomatch hp
      case q12 =>
        intro z h1 h2 h3
        have n1 : z ≠ Str.ofString "bit" := fun e => by subst e; simp at h3
        simp only [kstB, if_neg n1, if_neg h1, h3, Bool.false_eq_true, if_false]
      case q13 =>
        dsimp only
        rw [List.length_append, List.length_singleton, wholeTo, ← hP]
    · rename Fr _ _ _ _ => F3
      rename News _ _ _ _ => N3
      rename Obj.data _ = Data.cell (some (Value.int (HAdd.hAdd _ _) _)) => hc2
      rename ¬ k < 8 * 5 => hlt
      rw [chk3 (ns := ns) hk1 hlt] at hc2
      refine Stop.mk ?_
      refine' kst_end (_, _, _) F3 N3 ?h21 ?h22 ?ha2 hc2 ?q21 ?q22 ?q23
      case ha2 => rfl
      case h21 => exact fun p hp => (List.mem_cons.mp hp).elim (fun e => e ▸ .head _) fun hp => .tail _ (List.mem_append.mpr (.inl hp))
      case h22 => exact fun p hp => .tail _ (List.mem_append.mpr (.inr hp))
      case q21 => exact fun p hp => nomatch hp
      case q22 =>
        intro z h1 h2 h3
        have n1 : z ≠ Str.ofString "bit" := fun e => by subst e; simp at h3
        simp only [kstB, if_neg n1, if_neg h1, h3, Bool.false_eq_true, if_false]
      case q23 =>
        dsimp only
        rw [List.length_append, List.length_singleton, wholeTo, ← hP]
  case kc =>
    rintro ⟨d, td, od⟩ u h3 tk3 hcd hP F2 N2
    dsimp only at hcd hP F2 N2 ⊢
    clear F1 N1
    try k_fold
    have e72 : (rangeKs 0 72).length = 72 := rfl
    rw [e72] at hP
    have hrm : ∀ q : Addr × Obj, (r, listOf vs.toArray nr) ∈ q :: news := fun q => .tail _ hr
    k_steps
    refine Stop.mk ?_
    rename Fr _ _ _ _ => F1
    rename News _ _ _ _ => N1
    rename IsRange _ _ _ _ _ _ _ _ => R2
    with_unfolding_all refine' kst_rangeD (σ := Nat × Tok × Obj) (n := 40) (fun d => (L' + 1, d.2.2) :: news) (fun _ => []) (fun d => d.2.2.data = Data.cell (some (Value.int (d.1 : Int) d.2.1))) [] (fun pre d => d.1 = divTo (wholeTo ns 72) pre.length) (d, td, od) (by rfl) R2 (by decide) (by rfl) F1 N1 hcd ?kd hP ?ke ?kf
    case kd => kst_all
    case ke =>
      rintro ⟨d, td, od⟩ pre k tk u h3 tk3 own hk1 hk2 hoff hcd hP F2 N2
      dsimp only at hcd hP F2 N2 ⊢
      clear F1 N1
      try k_fold
      have hneC' : ∀ p ∈ news ++ own, p.1 ≠ L' + 1 := fun p hp => by
        rcases List.mem_append.mp hp with hp | hp
        · exact hneC p hp
        · exact hoff p hp (L' + 1) (by simp)
      k_steps
      · rename Fr _ _ _ _ => F3
        rename News _ _ _ _ => N3
        rename Obj.data _ = Data.cell (some (Value.int (Builtin.bitXor _ _) _)) => hc2
        rename Int.fdiv _ _ = 1 => ht
        rw [chk4 hk1 hk2] at ht
        rw [chk5 hk1 hk2] at hc2
        refine Stop.mk ?_
        refine' kst_end (_, _, _) F3 N3 ?h31 ?h32 ?hx3 hc2 ?q31 ?q32 ?q33
        case hx3 => rfl
        case h31 => exact fun p hp => (List.mem_cons.mp hp).elim (fun e => e ▸ .head _) fun hp => .tail _ (List.mem_append.mpr (.inl hp))
        case h32 => exact fun p hp => .tail _ (List.mem_append.mpr (.inr hp))
        case q31 => exact fun p hp => nomatch hp
        case q32 =>
          intro z h1 h2 h3
          simp only [kstB, if_neg h1, h3, Bool.false_eq_true, if_false]
        case q33 =>
          dsimp only
          rw [List.length_append, List.length_singleton, divTo, ← hP, if_pos (by omega)]
      · rename Fr _ _ _ _ => F3
        rename News _ _ _ _ => N3
        rename Int.fdiv _ _ ≠ 1 => ht
        rw [chk4 hk1 hk2] at ht
        have hc2 := hcd
        refine Stop.mk ?_
        refine' kst_end (_, _, _) F3 N3 ?h41 ?h42 ?hx4 hc2 ?q41 ?q42 ?q43
        case hx4 => rfl
        case h41 => exact fun p hp => (List.mem_cons.mp hp).elim (fun e => e ▸ .head _) fun hp => .tail _ (List.mem_append.mpr (.inl hp))
        case h42 => exact fun p hp => .tail _ (List.mem_append.mpr (.inr hp))
        case q41 => exact fun p hp => nomatch hp
        case q42 =>
          intro z h1 h2 h3
          simp only [kstB, if_neg h1, h3, Bool.false_eq_true, if_false]
        case q43 =>
          dsimp only
          rw [List.length_append, List.length_singleton, divTo, ← hP, if_neg (by omega)]
    case kf =>
      rintro ⟨d, td, od⟩ u h3 tk3 hcd hP F2 N2
      dsimp only at hcd hP F2 N2 ⊢
      clear F1 N1
      try k_fold
      k_steps
      rename Fr h₀ _ _ _ => F4
      rename News h₀ _ _ _ => N4
      have e40 : (downKs (8 * 5 - 1) 40).length = 40 := downKs_length _ _
      rw [e40] at hP
      subst hP
      exact hret _ _ _ F4 (fun p hp => N4 p (.tail _ (.tail _ hp)))
end Mine
end PartCK
section PartBT
set_option maxRecDepth 100000
set_option maxHeartbeats 4000000
set_option pp.deepTerms false
set_option pp.deepTerms.threshold 5
set_option pp.maxSteps 20000
namespace Mine
local macro_rules | `(tactic| walk_at "InvEndN") => `(tactic| (refine Stop.out ?_))
local macro_rules | `(tactic| walk_at "KswEnd") => `(tactic| (refine Stop.out ?_))
local macro_rules | `(tactic| walk_at "CompSrc") => `(tactic| dsimp only)
local macro_rules | `(tactic| walk_at "execs cons") => `(tactic| dsimp only)
local macro_rules | `(tactic| walk_at "execs nil") => `(tactic| dsimp only)
local macro_rules | `(tactic| walk_at "binaryOp") => `(tactic| dsimp only)
section
variable {prog : Program} {w : World} {A : Around} {E : Value → Shared → Prop} {s : Shared} {h₀ : Heap} {L : Addr} {m : Str → Option Value}
theorem ints_snoc {x : Int} {t : Tok} : ∀ {vs : List Value} {ns : List Int}, IntsAre vs ns → IntsAre (vs ++ [.int x t]) (ns ++ [x])
  | _, _, .nil => .cons x t .nil
  | _, _, .cons i u h => .cons i u (ints_snoc h)
theorem append_zs {l : Addr} {vs : List Value} {ns : List Nat} {n : Nat} {rest : List (Addr × Obj)} {x : Int} {t : Tok} {Q : Value → Shared → Prop} (xn : Nat) (F : Fr h₀ L s.heap m) (N : News h₀ L s.heap ((l, listOf vs.toArray n) :: rest)) (hne : ∀ p ∈ rest, p.1 ≠ l)
    (hi : IntsAre vs (zs ns)) (hx : x = (xn : Int)) (hlen : ns.length < 1048576)
    (h : ∀ h' ws, Fr h₀ L h' m → News h₀ L h' ((l, listOf ws.toArray (n + 1)) :: rest) → IntsAre ws (zs (ns ++ [xn])) → Q .none { s with heap := h' }) :
    wpAny (model prog w) A (call (.builtin "list.append") [.ref l, .int x t]) Q E s := by
  have e : (vs ++ [Value.int x t]).toArray = vs.toArray.push (.int x t) := by simp
  have hl : vs.length = ns.length := by rw [hi.length]; simp [zs]
  refine append_K F N (Upd.head hne) (fun h' F' N' => h h' (vs ++ [.int x t]) F' (by rw [e]; exact N') ?_) (by rw [sizeLine_eq]; simp; omega)
  have := ints_snoc (x := x) (t := t) hi
  subst hx
  simpa [zs] using this
end
theorem bits_pig {bs : List Nat} {f b0 j : Nat} (hj : j ≤ 32) (h : ∀ i < j, f + (b0 + i) % 32 ∈ bs) : j ≤ bs.length := by
  have h1 : ((List.range j).map fun i => f + (b0 + i) % 32).Nodup := by
    rw [List.Nodup, List.pairwise_map]
    refine List.Pairwise.imp_of_mem ?_ List.nodup_range
    intro x y hx hy e
    rw [List.mem_range] at hx hy
    omega
  have h2 := h1.length_le_of_subset (l₂ := bs) fun x hx => by
    obtain ⟨i, hi, rfl⟩ := List.mem_map.mp hx
    exact h i (List.mem_range.mp hi)
  simpa using h2
theorem any_zs {bs : List Nat} {x : Int} (xn : Nat) (hx : x = (xn : Int)) : ((zs bs).any fun y => y == x) = decide (xn ∈ bs) := by
  subst hx
  rw [Bool.eq_iff_iff]
  simp only [List.any_eq_true, zs, List.mem_map, decide_eq_true_eq, beq_iff_eq]
  constructor
  · rintro ⟨y, ⟨k, hk, rfl⟩, e⟩
    have : k = xn := by omega
    exact this ▸ hk
  · exact fun h => ⟨_, ⟨_, h, rfl⟩, rfl⟩
local macro_rules | `(tactic| walk_at "call builtin:list.append") => `(tactic| (k_here; k_dflt (refine' append_zs _ ?k1 ?k2 ?k3 ?k4 ?k5 ?k6 ?_; (case k1 => k_asm); (case k2 => k_asm); (case k3 => assumption); (case k4 => assumption); (case k5 => ktr_rel); (case k6 => omega); k_whole); intro h' ws' F' N' hI'; (try k_sweep)))
local macro_rules | `(tactic| ktr_rel) => `(tactic| exact (Int.natCast_add _ _).symm)
theorem bits_spec {w : World} {mean : ExcName → Option Value} {mg mb : Str → Option Value} {dp un : Nat} {gd : Option (List Code)} {cn : Str} {cs : Scope} {a : Addr} {ccd : Value} {cl : List (Str × Addr)} {outer : List Env} {A₀ : Around} {base h₀ : Heap} {L : Addr} {m : Str → Option Value} {s : Shared} {Q E : Value → Shared → Prop}
  {rest : List (Addr × Obj)} {l : Addr} {vs : List Value} {n : Nat} {ns : List Nat}
  (hB : Below A₀ base outer h₀) (F : Fr h₀ L s.heap m) (X : (hd.heap_39 w.params).In h₀) (N : News h₀ L s.heap ((l, listOf vs.toArray n) :: rest)) (hT : Top hd.view_39 (looseW hd.view_39 []) mean mg mb h₀) (hk : cs.kind = .function)
  (hi : IntsAre vs (zs ns)) (hnl : ns.length = 5) (hdp : dp + 2 < recursionLimit) (hun : un + 16 < cLine)
  (hret : ∀ D ws bs f h' n' tk', Fr h₀ L h' m → News h₀ L h' ((D, listOf ws.toArray n') :: (l, listOf vs.toArray n) :: rest) → (∀ q ∈ (l, listOf vs.toArray n) :: rest, q.1 < D) → IntsAre ws (zs bs) → bs.length = 4 → bs.Nodup → (f = 0 ∨ f = 8) → (∀ x ∈ bs, f ≤ x ∧ x < f + 32) → Q (.ref D) { s with heap := h', toks := tk' }) :
  wpAny (model Challenge.rw_mq0079_01.row.prog w) (ktrTop dp un gd cn cs L a ccd cl outer) (call (.ref 61) [.ref l]) Q E s := by
  k_with_none
  k_with "pyIter ref" => (refine Stop.out ?_)
  k_with "exec While Compare cons nil" => (refine Stop.out ?_)
  k_with "call ref cons nil" => (refine Stop.out ?_)
  revert X; k_fill; intro X
  refine wpAny_call ?_
  have hvl : vs.length = 5 := by rw [hi.length]; simpa [zs] using hnl
  have hzl : (zs ns).length = 5 := by simpa [zs] using hnl
  k_dflt ktr_enter
  k_steps
  refine Stop.mk ?_
  rename Fr _ _ _ _ => F1
  rename News _ _ _ _ => N1
  rename IntsAre _ (List.take 4 (zs ns)) => hI1
  rename_i lb _ lt1 Dt _ lt2 _ _ _ Ds ws0 hp0 hC hL0 lt3
  obtain ⟨f, hf, hf2⟩ : ∃ f : Nat, (zs ns).sum.fmod 2 * 8 = (f : Int) ∧ (f = 0 ∨ f = 8) := by
    have h1 := Int.fmod_nonneg_of_pos (zs ns).sum (show (0 : Int) < 2 by decide)
    have h2 := Int.fmod_lt_of_pos (zs ns).sum (show (0 : Int) < 2 by decide)
    refine ⟨((zs ns).sum.fmod 2 * 8).toNat, by omega, by omega⟩
  rw [hf] at F1
  have allLt_mem : ∀ {d : Nat} {r : List (Addr × Obj)}, AllLt d r → ∀ p ∈ r, p.1 < d := fun {d r} h => by
    induction r with
    | nil => exact fun _ hp => nomatch hp
    | cons q r ih => exact fun p hp => (List.mem_cons.mp hp).elim (fun e => e ▸ h.1) fun hp => ih h.2 p hp
  have hlb : ∀ p ∈ (l, listOf vs.toArray n) :: rest, p.1 < lb := fun p hp => (List.mem_cons.mp hp).elim (fun e => e ▸ lt1.1) fun hp => allLt_mem lt1.2 p hp
  with_unfolding_all refine' kst_listL (σ := List Value × List Nat × Nat) (l := Ds) (vs := ws0) (ns := List.take 4 (zs ns)) (nn := 0) (fun c => (lb, listOf c.1.toArray c.2.2) :: (Ds, listOf ws0.toArray 0) :: (l, listOf vs.toArray n) :: rest) (fun _ => []) (fun c => IntsAre c.1 (zs c.2.1)) [Str.ofString "bit"] (fun pre c => c.2.1.length = pre.length ∧ c.2.1.Nodup ∧ ∀ x ∈ c.2.1, f ≤ x ∧ x < f + 32) ([], [], 0) (by rfl) (fun _ => .tail _ (.head _)) hI1 F1 ?kn IntsAre.nil ?ka ?kp ?kb ?kc
  case kn => exact fun p hp => N1 p (by simp only [List.mem_cons] at hp ⊢; rcases hp with h | h | h | h <;> simp [h])
  case ka => kst_all
  case kp => exact ⟨rfl, List.Pairwise.nil, fun _ h => nomatch h⟩
  case kb =>
    rintro ⟨us, bs, nb⟩ pre post z tz u h3 tk3 own hk1 hk2 hoff hI ⟨hP1, hP2, hP3⟩ F2 N2
    dsimp only at hI hP1 hP2 hP3 F2 N2 ⊢
    clear F1 N1
    try k_fold
    have hpl : pre.length < 4 := by
      have := congrArg List.length hk1
      rw [List.length_append, List.length_cons, List.length_take] at this
      omega
    have hneB : ∀ p ∈ (Ds, listOf ws0.toArray 0) :: (l, listOf vs.toArray n) :: rest ++ own, p.1 ≠ lb := fun p hp => by
      rcases List.mem_append.mp hp with hp | hp
      · rcases List.mem_cons.mp hp with rfl | hp
        · exact Nat.ne_of_gt lt3.2.1
        · exact Nat.ne_of_lt (hlb p hp)
      · exact hoff p hp lb (by simp)
    have hb0 : 0 ≤ (z.fdiv 256).fmod 32 := Int.fmod_nonneg_of_pos _ (by decide)
    have hb1 : (z.fdiv 256).fmod 32 < 32 := Int.fmod_lt_of_pos _ (by decide)
    k_steps
    refine Stop.mk ?_
    rename Fr _ _ _ _ => F3
    rename News _ _ _ _ => N3
    obtain ⟨b0, hb2⟩ : ∃ b0 : Nat, (z.fdiv 256).fmod 32 = (b0 : Int) := ⟨((z.fdiv 256).fmod 32).toNat, by omega⟩
    rw [hb2] at F3 hb0 hb1
    refine' ksw_while (σ := Nat × Tok × Nat) (fun _ => _) (fun c => [(Str.ofString "bit", Value.int (c.1 : Int) c.2.1)]) (fun _ => True) []
      (fun c => c.1 < 32 ∧ c.2.2 ≤ bs.length ∧ c.1 = (b0 + c.2.2) % 32 ∧ ∀ i < c.2.2, f + (b0 + i) % 32 ∈ bs) (fun c => 10 - c.2.2) (b0, ?tb0, 0) F3 N3 trivial ?ka ?kp ?kt
    case ka => kst_all
    case kp => exact ⟨by dsimp only; omega, Nat.zero_le _, by dsimp only; omega, fun i hi => absurd hi (Nat.not_lt_zero _)⟩
    case kt =>
      rintro ⟨b, tb, j⟩ u4 h4 tk4 - ⟨hq1, hq2, hq3, hq4⟩ F4 N4
      dsimp only at hq1 hq2 hq3 hq4 F4 N4 ⊢
      clear F3 N3
      k_steps
      · rename Fr _ _ _ _ => F5
        rename News _ _ _ _ => N5
        rename List.any _ _ = true => ht
        rw [any_zs (f + b) (by omega), decide_eq_true_eq] at ht
        have hj2 : ∀ i < j + 1, f + (b0 + i) % 32 ∈ bs := fun i hi => by
          by_cases hij : i = j
          · subst hij; rw [← hq3]; exact ht
          · exact hq4 i (by omega)
        have hj3 := bits_pig (by omega) hj2
        have hv : ((b : Int) + 1).fmod 32 = (((b + 1) % 32 : Nat) : Int) := by
          have := fmod_nat (b + 1) 32 32 rfl
          simpa using this
        rw [hv] at F5
        refine Stop.mk ?_
        refine' ksw_end ((b + 1) % 32, ?tb1, j + 1) F5 N5 (fun p hp => hp) trivial ?r1 ?r2 ?r3 ?r4
        case r1 => kst_all
        case r2 =>
          intro z h2 h3
          have n1 : z ≠ Str.ofString "bit" := h2 _ (.head _)
          simp only [kstB, if_neg n1, h3, Bool.false_eq_true, if_false]
        case r3 => exact ⟨by dsimp only; omega, hj3, by dsimp only; omega, hj2⟩
        case r4 => dsimp only; omega
      · rename Fr _ _ _ _ => F5
        rename News _ _ _ _ => N5
        rename List.any _ _ = false => ht
        rename IntsAre _ (zs (_ ++ _)) => hI2
        rw [any_zs (f + b) (by omega), decide_eq_false_iff_not] at ht
        refine Stop.mk ?_
        refine' kst_end (_, _, nb + 1) F5 N5 ?u1 ?u2 ?u3 hI2 ?u4 ?u5 ?u6
        case u3 => rfl
        case u1 => exact fun p hp => (List.mem_cons.mp hp).elim (fun e => e ▸ .head _) fun hp => .tail _ (List.mem_append.mpr (.inl hp))
        case u2 => exact fun p hp => .tail _ (List.mem_append.mpr (.inr hp))
        case u4 => exact fun p hp => nomatch hp
        case u5 =>
          intro z h1 h2 h3
          have n1 : z ≠ Str.ofString "bit" := fun e => by subst e; simp at h3
          simp only [kstB, if_neg n1, if_neg h1, h3, List.contains_nil, Bool.false_eq_true, if_false]
        case u6 =>
          refine ⟨by simp [hP1], ?_, fun x hx => ?_⟩
          · exact List.nodup_append.mpr ⟨hP2, by simp, fun x hx y hy => by rw [List.mem_singleton.mp hy]; exact fun e => ht (e ▸ hx)⟩
          · rcases List.mem_append.mp hx with hx | hx
            · exact hP3 x hx
            · rw [List.mem_singleton.mp hx]; omega
  case kc =>
    rintro ⟨us, bs, nb⟩ u h3 tk3 hI ⟨hP1, hP2, hP3⟩ F2 N2
    dsimp only at hI hP1 hP2 hP3 F2 N2 ⊢
    clear F1 N1
    try k_fold
    k_steps
    rename Fr h₀ _ _ _ => F4
    rename News h₀ _ _ _ => N4
    have e4 : (List.take 4 (zs ns)).length = 4 := by rw [List.length_take]; omega
    refine' hret _ _ _ _ _ nb _ F4 (fun p hp => N4 p ?_) hlb hI (by omega) hP2 hf2 hP3
    simp only [List.mem_cons] at hp ⊢
    rcases hp with h | h | h <;> simp [h]
end Mine
end PartBT
section PartNU
set_option maxRecDepth 100000
set_option maxHeartbeats 4000000
set_option pp.deepTerms false
set_option pp.deepTerms.threshold 5
set_option pp.maxSteps 20000
namespace Mine
local macro_rules | `(tactic| walk_at "execs cons") => `(tactic| dsimp only)
local macro_rules | `(tactic| walk_at "execs nil") => `(tactic| dsimp only)
local macro_rules | `(tactic| walk_at "binaryOp") => `(tactic| dsimp only)
local macro_rules | `(tactic| walk_at "CompSrc") => `(tactic| (refine Stop.out ?_))
local macro_rules | `(tactic| walk_at "newList") => `(tactic| dsimp only)
local macro_rules | `(tactic| walk_at "call") => `(tactic| dsimp only)
theorem len_lst {prog : Program} {w : World} {A : Around} {E : Value → Shared → Prop} {s : Shared} {h₀ : Heap} {L : Addr} {l : Addr} {o : Obj} {vs : List Value} {ks : List Int} {n : Nat} {news : List (Addr × Obj)} {Q : Value → Shared → Prop} (N : News h₀ L s.heap news) (hm : (l, o) ∈ news) (hc : o.cls = .type "list") (hd : o.data = .seq vs.toArray n)
    (hi : IntsAre vs ks) (hl : ks.length < 1048576) (h : ∀ t tk, Q (.int (ks.length : Int) t) { s with toks := tk }) : wpAny (model prog w) A (call (.builtin "len") [.ref l]) Q E s := by
  have e : vs.toArray.size = ks.length := by simp [hi.length]
  exact len_list (items := vs.toArray) ⟨_, (N _ hm).1, hc, n, hd⟩ (by rw [e]; omega) (by rw [e]; exact h _ _)
local macro_rules | `(tactic| walk_at "call builtin:len") => `(tactic| (k_here; k_dflt (refine' len_lst ?k1 ?k2 ?kc ?kd ?k3 ?k4 ?_; (case k1 => k_asm); (case k2 => k_mem); (case kc => rfl); (case kd => rfl); (case k3 => assumption); (case k4 => (simp only [List.length_map, List.length_take]; omega)); k_whole); intro _ tk; (try dsimp only)))
theorem zs_of {l : List Int} (h : ∀ x ∈ l, 0 ≤ x) : zs (l.map Int.toNat) = l := by
  induction l with
  | nil => rfl
  | cons x l ih =>
    have h1 := h x (.head _)
    have h2 := ih fun y hy => h y (.tail _ hy)
    show ((x.toNat : Nat) : Int) :: zs (l.map Int.toNat) = x :: l
    rw [h2, Int.toNat_of_nonneg h1]
theorem allLt_mem {d : Nat} : ∀ {r : List (Addr × Obj)}, AllLt d r → ∀ p ∈ r, p.1 < d
  | [], _, _, hp => nomatch hp
  | _ :: _, h, p, hp => (List.mem_cons.mp hp).elim (fun e => e ▸ h.1) fun hp => allLt_mem h.2 p hp
theorem numbers_ints {ws : List Value} {A B : List Int} {k : Nat} (hI : IntsAre ws (A ++ B.drop k)) (hA : ∀ x ∈ A, 0 ≤ x) (hB : ∀ x ∈ B, 0 ≤ x) (hl : A.length + (B.length - k) = 5) : ∃ ns : List Nat, IntsAre ws (zs ns) ∧ ns.length = 5 := by
  have h : zs ((A ++ B.drop k).map Int.toNat) = A ++ B.drop k := zs_of fun x hx => (List.mem_append.mp hx).elim (hA x) fun hx => hB x (List.mem_of_mem_drop hx)
  exact ⟨_, h.symm ▸ hI, by simpa using hl⟩
theorem numbers_spec {w : World} {mean : ExcName → Option Value} {mg mb : Str → Option Value} {dp un : Nat} {gd : Option (List Code)} {cn : Str} {cs : Scope} {a : Addr} {ccd : Value} {cl : List (Str × Addr)} {outer : List Env} {A₀ : Around} {base h₀ : Heap} {L : Addr} {m : Str → Option Value} {s : Shared} {Q E : Value → Shared → Prop}
  {news : List (Addr × Obj)} {l : Addr} {vs : List Value} {ks : List Int}
  (hB : Below A₀ base outer h₀) (F : Fr h₀ L s.heap m) (X : (hd.heap_39 w.params).In h₀) (N : News h₀ L s.heap news) (hT : Top hd.view_39 (looseW hd.view_39 []) mean mg mb h₀) (hk : cs.kind = .function)
  (hG : Glob 0 mg mb (List.map itemOf (recsOf hd.view_39)) (scalarsOf [] ++ constsW hd.view_39) [] (namesW hd.view_39 []) base)
  (hl : base.IsList l vs.toArray) (hi : IntsAre vs ks) (hnl : ks.length ≤ 63) (hdp : dp + 2 < recursionLimit) (hun : un + 16 < cLine)
  (hret : ∀ D ws ns h' tk', Fr h₀ L h' m → News h₀ L h' ((D, listOf ws.toArray 0) :: news) → (∀ q ∈ news, q.1 < D) → IntsAre ws (zs ns) → ns.length = 5 → Q (.ref D) { s with heap := h', toks := tk' }) :
  wpAny (model Challenge.rw_mq0079_01.row.prog w) (ktrTop dp un gd cn cs L a ccd cl outer) (call (.ref 54) [.ref l]) Q E s := by
  k_with_none
  revert X; k_fill; intro X
  refine wpAny_call ?_
  have hvl : vs.length = ks.length := hi.length
  k_dflt cell_enter
  k_steps
  refine Stop.mk ?_
  k_here
  (try k_fmods)
  (try kcf_lens)
  k_dflt (refine LCg.CompSrc.ledger (by rfl) (by k_asm) (by k_asm) (by k_mem) (by kcf_size) ?_; intro g')
  k_dflt (refine' kcf_list _ (by first | assumption | l_ints) (fun k' t' I' oI' C' oC' D' m' ys' h' tk' E' hk' hC' hx' F' N' off' ne' hMark' => ?_) ?_)
  (all_goals (try (simp only [LCg.Off3, and_true] at off')))
  kcf_last
  k_steps
  rename Fr h₀ _ _ _ => F4
  rename News h₀ _ _ _ => N4
  rename IntsAre _ (_ ++ _) => hI4
  obtain ⟨ns, e1, e2⟩ := numbers_ints hI4 (fun x hx => by
      obtain ⟨k, _, rfl⟩ := List.mem_map.mp hx
      exact Int.fmod_nonneg_of_pos _ (by decide)) (by decide) (by
      simp only [List.length_map, List.length_take, Int.toNat_natCast, List.length_cons, List.length_nil]
      omega)
  refine hret _ _ _ _ _ F4 (fun p hp => N4 p ?_) ?_ e1 e2
  · simp only [List.mem_cons] at hp ⊢
    rcases hp with h | h <;> simp [h]
  · rename _ ∧ _ ∧ _ ∧ _ ∧ AllLt _ news => hlt4
    exact allLt_mem hlt4.2.2.2.2
end Mine
end PartNU
section PartEnumP
namespace Mine
open PySem
def bitOf (c p : Nat) : Nat := c / 2 ^ p % 2
def price (ps : List Nat) (c : Nat) : Nat := bitOf c 0 * ps.getD 0 0 + bitOf c 1 * ps.getD 1 0 + bitOf c 2 * ps.getD 2 0 + bitOf c 3 * ps.getD 3 0
def blen (c : Nat) : Nat := if c = 0 then 0 else if c < 2 then 1 else if c < 4 then 2 else if c < 8 then 3 else 4
def parent (c : Nat) : Nat := c - 2 ^ (blen c - 1)
def kids (x k : Nat) : List Nat := (List.range k).map fun i => x + 2 ^ (blen x + i)
def item (ps : List Nat) (c : Nat) : T3 := ((price ps c : Int), (c : Int), (blen c : Int))
def klt (ps : List Nat) (c d : Nat) : Prop := price ps c < price ps d ∨ (price ps c = price ps d ∧ c < d)

theorem klt_of_tle {ps : List Nat} {c d : Nat} (h : tle (item ps c) (item ps d)) (hne : c ≠ d) : klt ps c d := by
  rw [tle_iff] at h
  unfold item at h
  unfold klt
  simp only at h
  omega
theorem klt_trans {ps : List Nat} {a b c : Nat} (h1 : klt ps a b) (h2 : klt ps b c) : klt ps a c := by
  unfold klt at *; omega
theorem blen_le : ∀ x, x < 16 → blen x ≤ 4 := by decide
theorem kid_lt : ∀ x, x < 16 → ∀ i, i < 4 - blen x → x + 2 ^ (blen x + i) < 16 := by decide
theorem kid_blen : ∀ x, x < 16 → ∀ i, i < 4 - blen x → blen (x + 2 ^ (blen x + i)) = blen x + i + 1 := by decide
theorem kid_mem : ∀ x, x < 16 → ∀ c, c < 16 → (c ∈ kids x (4 - blen x) ↔ c ≠ 0 ∧ parent c = x) := by decide
theorem kids_nodup : ∀ x, x < 16 → (kids x (4 - blen x)).Nodup := by decide
theorem parent_lt : ∀ c, c < 16 → c ≠ 0 → parent c < c := by decide
theorem kid_bits : ∀ x, x < 16 → ∀ i, i < 4 - blen x → ∀ p, p < 4 → bitOf (x + 2 ^ (blen x + i)) p = bitOf x p + (if p = blen x + i then 1 else 0) := by decide
theorem kid_price (ps : List Nat) {x i : Nat} (hx : x < 16) (hi : i < 4 - blen x) : price ps (x + 2 ^ (blen x + i)) = price ps x + ps.getD (blen x + i) 0 := by
  unfold price
  rw [kid_bits x hx i hi 0 (by decide), kid_bits x hx i hi 1 (by decide), kid_bits x hx i hi 2 (by decide), kid_bits x hx i hi 3 (by decide)]
  have hb := blen_le x hx
  have : blen x + i = 0 ∨ blen x + i = 1 ∨ blen x + i = 2 ∨ blen x + i = 3 := by omega
  rcases this with e | e | e | e <;> rw [e] <;> simp [Nat.add_mul] <;> omega

structure EInv (ps : List Nat) (hs ts : List Nat) : Prop where
  nd : (ts ++ hs).Nodup
  lt : ∀ c ∈ ts ++ hs, c < 16
  mem : ∀ c, c < 16 → (c ∈ ts ++ hs ↔ c = 0 ∨ parent c ∈ ts)
  sorted : ts.Pairwise (klt ps)
  below : ∀ t ∈ ts, ∀ h ∈ hs, klt ps t h

theorem EInv.start (ps : List Nat) : EInv ps [0] [] := by
  refine ⟨by simp, by simp, fun c _ => by simp, .nil, fun _ h => nomatch h⟩

theorem EInv.perm {ps : List Nat} {hs hs' ts : List Nat} (h : EInv ps hs ts) (p : hs'.Perm hs) : EInv ps hs' ts := by
  have q : (ts ++ hs').Perm (ts ++ hs) := p.append_left ts
  exact ⟨q.nodup_iff.mpr h.nd, fun c hc => h.lt c (q.mem_iff.mp hc), fun c hc => by rw [q.mem_iff]; exact h.mem c hc, h.sorted, fun t ht x hx => h.below t ht x (p.mem_iff.mp hx)⟩

theorem EInv.step {ps : List Nat} {x : Nat} {hs ts : List Nat} (h : EInv ps (x :: hs) ts) (hmin : ∀ y ∈ hs, klt ps x y) : EInv ps (hs ++ kids x (4 - blen x)) (ts ++ [x]) := by
  have hx : x < 16 := h.lt x (by simp)
  have hxt : x ∉ ts := fun ht => by
    have := List.nodup_append.mp h.nd
    exact this.2.2 x ht x (by simp) rfl
  have hkid : ∀ c ∈ kids x (4 - blen x), c < 16 ∧ c ≠ 0 ∧ parent c = x := fun c hc => by
    have hc16 : c < 16 := by
      obtain ⟨i, hi, rfl⟩ := List.mem_map.mp hc
      exact kid_lt x hx i (List.mem_range.mp hi)
    exact ⟨hc16, (kid_mem x hx c hc16).mp hc⟩
  have hnew : ∀ c ∈ kids x (4 - blen x), c ∉ ts ++ (x :: hs) := fun c hc hm => by
    obtain ⟨h1, h2, h3⟩ := hkid c hc
    rcases (h.mem c h1).mp hm with h4 | h4
    · exact h2 h4
    · rw [h3] at h4; exact hxt h4
  have hp : ((ts ++ [x]) ++ (hs ++ kids x (4 - blen x))).Perm ((ts ++ (x :: hs)) ++ kids x (4 - blen x)) := by simp
  refine ⟨?_, fun c hc => ?_, fun c hc => ?_, ?_, ?_⟩
  · rw [hp.nodup_iff]
    exact List.nodup_append.mpr ⟨h.nd, kids_nodup x hx, fun a ha b hb e => hnew b hb (e ▸ ha)⟩
  · rcases List.mem_append.mp (hp.mem_iff.mp hc) with hc | hc
    · exact h.lt c hc
    · exact (hkid c hc).1
  · rw [hp.mem_iff, List.mem_append, h.mem c hc, kid_mem x hx c hc]
    simp only [List.mem_append, List.mem_singleton]
    constructor
    · rintro ((h1 | h1) | h1)
      · exact .inl h1
      · exact .inr (.inl h1)
      · exact .inr (.inr h1.2)
    · rintro (h1 | h1 | h1)
      · exact .inl (.inl h1)
      · exact .inl (.inr h1)
      · by_cases h0 : c = 0
        · exact .inl (.inl h0)
        · exact .inr ⟨h0, h1⟩
  · exact List.pairwise_append.mpr ⟨h.sorted, by simp, fun a ha b hb => by rw [List.mem_singleton.mp hb]; exact h.below a ha x (by simp)⟩
  · have hxk : ∀ c ∈ kids x (4 - blen x), klt ps x c := fun c hc => by
      obtain ⟨i, hi, rfl⟩ := List.mem_map.mp hc
      have hi' := List.mem_range.mp hi
      have := kid_price ps hx hi'
      have h2 : 0 < 2 ^ (blen x + i) := Nat.pow_pos (by decide)
      unfold klt; omega
    intro t ht y hy
    rcases List.mem_append.mp ht with ht | ht
    · rcases List.mem_append.mp hy with hy | hy
      · exact h.below t ht y (by simp [hy])
      · exact klt_trans (h.below t ht x (by simp)) (hxk y hy)
    · rw [List.mem_singleton.mp ht]
      rcases List.mem_append.mp hy with hy | hy
      · exact hmin y hy
      · exact hxk y hy

theorem EInv.all {ps ts : List Nat} (h : EInv ps [] ts) : ts.Perm (List.range 16) := by
  have hall : ∀ c, c < 16 → c ∈ ts := by
    intro c
    induction c using Nat.strongRecOn with
    | ind c ih =>
      intro hc
      have := (h.mem c hc)
      rw [List.append_nil] at this
      by_cases h0 : c = 0
      · exact this.mpr (.inl h0)
      · exact this.mpr (.inr (ih _ (parent_lt c hc h0) (by have := parent_lt c hc h0; omega)))
  have hnd : ts.Nodup := by simpa using h.nd
  refine (List.perm_ext_iff_of_nodup hnd List.nodup_range).mpr fun c => ?_
  rw [List.mem_range]
  exact ⟨fun hc => h.lt c (by simpa using hc), hall c⟩
theorem EInv.few {ps hs ts : List Nat} (h : EInv ps hs ts) : ts.length + hs.length ≤ 16 := by
  have := h.nd.length_le_of_subset (l₂ := List.range 16) fun c hc => List.mem_range.mpr (h.lt c hc)
  simpa using this
end Mine
end PartEnumP
section PartTRP
set_option maxRecDepth 100000
set_option maxHeartbeats 4000000
namespace Mine
section
variable {prog : Program} {w : World} {A : Around} {E : Value → Shared → Prop} {s : Shared} {h₀ : Heap} {L : Addr} {m : Str → Option Value}
theorem ne_nil_refs {l D : Addr} {as : List Addr} {n k : Nat} {news : List (Addr × Obj)} {Q : Value → Shared → Prop} (N : News h₀ L s.heap news) (h1 : (l, listOf (refsOf as) n) ∈ news) (h2 : (D, listOf [].toArray k) ∈ news) (hu : A.units < cLine)
    (h : Q (.bool (!as.isEmpty)) s) : wpAny (model prog w) A (compareOp .NotEq (.ref l) (.ref D)) Q E s := by
  refine cmp_ofNotEq ?_
  have hl : s.heap.IsList l (refsOf as) := ⟨_, (N _ h1).1, rfl, n, rfl⟩
  have hd : s.heap.IsList D #[] := ⟨_, (N _ h2).1, rfl, k, rfl⟩
  cases as with
  | nil => exact PySem.SeqAt.RcNeAt.lists (e := fun _ => true) hl hd rfl hu (fun j h1 _ => absurd h1 (Nat.not_lt_zero _)) prog w E Q h
  | cons a as => exact PySem.SeqAt.RcNeAt.lists_lengths hl hd (by simp) hu prog w E Q h
end
abbrev triObj (p c : Int) (f : Bool) (t1 t2 : Tok) (n : Nat) : Obj := { cls := .type "tuple", data := .seq [.int p t1, .int c t2, .bool f].toArray n }
def TriedOK (ps : List Nat) (fit : Nat → Bool) (tl : List (Addr × Obj)) : List Addr → List Nat → Prop
  | [], [] => True
  | u :: us, c :: cs => (∃ t1 t2 n, (u, triObj (price ps c) c (fit c) t1 t2 n) ∈ tl) ∧ TriedOK ps fit tl us cs
  | _, _ => False
theorem TriedOK.mono {ps : List Nat} {fit : Nat → Bool} {tl tl' : List (Addr × Obj)} (hs : ∀ p ∈ tl, p ∈ tl') : ∀ {us : List Addr} {cs : List Nat}, TriedOK ps fit tl us cs → TriedOK ps fit tl' us cs
  | [], [], _ => trivial
  | _ :: _, _ :: _, ⟨⟨t1, t2, n, hm⟩, r⟩ => ⟨⟨t1, t2, n, hs _ hm⟩, r.mono hs⟩
theorem TriedOK.snoc {ps : List Nat} {fit : Nat → Bool} {tl : List (Addr × Obj)} {u : Addr} {c : Nat} {t1 t2 : Tok} {n : Nat} (hm : (u, triObj (price ps c) c (fit c) t1 t2 n) ∈ tl) : ∀ {us : List Addr} {cs : List Nat}, TriedOK ps fit tl us cs → TriedOK ps fit tl (us ++ [u]) (cs ++ [c])
  | [], [], _ => ⟨⟨t1, t2, n, hm⟩, trivial⟩
  | _ :: _, _ :: _, ⟨h, r⟩ => ⟨h, r.snoc hm⟩
theorem TriedOK.length {ps : List Nat} {fit : Nat → Bool} {tl : List (Addr × Obj)} : ∀ {us : List Addr} {cs : List Nat}, TriedOK ps fit tl us cs → us.length = cs.length
  | [], [], _ => rfl
  | _ :: _, _ :: _, ⟨_, r⟩ => congrArg (· + 1) r.length
theorem TupOK.mono {news news' : List (Addr × Obj)} {key : Addr → T3} {a : Addr} (hs : ∀ p ∈ news, p ∈ news') (h : TupOK news key a) : TupOK news' key a := by
  obtain ⟨t1, t2, t3, n, hm⟩ := h
  exact ⟨t1, t2, t3, n, hs _ hm⟩
def setKey (key : Addr → T3) (D : Addr) (d : T3) : Addr → T3 := fun a => if a = D then d else key a
theorem setKey_self (key : Addr → T3) (D : Addr) (d : T3) : setKey key D d D = d := if_pos rfl
theorem setKey_ne (key : Addr → T3) {D a : Addr} (d : T3) (h : a ≠ D) : setKey key D d a = key a := if_neg h
theorem setKey_map {key : Addr → T3} {D : Addr} {d : T3} {as : List Addr} (h : ∀ a ∈ as, a ≠ D) : as.map (setKey key D d) = as.map key := List.map_congr_left fun a ha => setKey_ne key d (h a ha)
theorem setKey_heap {key : Addr → T3} {D : Addr} {d : T3} {as : List Addr} (h : ∀ a ∈ as, a ≠ D) (hh : IsHeap key as) : IsHeap (setKey key D d) as := by
  intro i a b
  have hp : par i < as.length := by unfold par; omega
  unfold kat
  rw [setKey_ne _ _ (h _ (getD_mem b)), setKey_ne _ _ (h _ (getD_mem hp))]
  exact hh i a b
theorem setKey_tup {key : Addr → T3} {D : Addr} {d : T3} {a : Addr} {news : List (Addr × Obj)} (h : a ≠ D) (ht : TupOK news key a) : TupOK news (setKey key D d) a := by
  unfold TupOK
  rw [setKey_ne _ _ h]
  exact ht
/-- what a pop says of the choices -/
theorem pop_choice {ps : List Nat} {key : Addr → T3} {as as' : List Addr} {x : Addr} {hs ts : List Nat} (hp : (as.map key).Perm (hs.map (item ps))) (hx : (x :: as').Perm as) (hmin : ∀ y ∈ as', tle (key x) (key y)) (he : EInv ps hs ts) :
    ∃ c hs', key x = item ps c ∧ c < 16 ∧ (as'.map key).Perm (hs'.map (item ps)) ∧ EInv ps (hs' ++ kids c (4 - blen c)) (ts ++ [c]) := by
  have h1 : ((x :: as').map key).Perm (hs.map (item ps)) := (hx.map key).trans hp
  have hm : key x ∈ hs.map (item ps) := h1.mem_iff.mp (.head _)
  obtain ⟨c, hc, e⟩ := List.mem_map.mp hm
  have h2 : hs.Perm (c :: hs.erase c) := List.perm_cons_erase hc
  have h3 : (as'.map key).Perm ((hs.erase c).map (item ps)) := by
    have : (key x :: as'.map key).Perm (item ps c :: (hs.erase c).map (item ps)) := h1.trans (h2.map (item ps))
    rw [e] at this
    exact this.cons_inv
  have he' : EInv ps (c :: hs.erase c) ts := he.perm h2.symm
  refine ⟨c, hs.erase c, e.symm, he.lt c (by simp [hc]), h3, he'.step fun d hd => ?_⟩
  have hcd : c ≠ d := fun e => by
    have := (List.nodup_append.mp he'.nd).2.1
    rw [List.nodup_cons] at this
    exact this.1 (e ▸ hd)
  have hd2 : item ps d ∈ as'.map key := h3.mem_iff.mpr (List.mem_map.mpr ⟨d, hd, rfl⟩)
  obtain ⟨y, hy, ey⟩ := List.mem_map.mp hd2
  have := hmin y hy
  rw [← e, ey] at this
  exact klt_of_tle this hcd
/-- what a push says -/
theorem push_choice {ps : List Nat} {key : Addr → T3} {as as' : List Addr} {D : Addr} {hs : List Nat} {c k : Nat} (hp : (as.map key).Perm ((hs ++ kids c k).map (item ps))) (hx : as'.Perm (as ++ [D])) (hne : ∀ a ∈ as, a ≠ D) :
    (as'.map (setKey key D (item ps (c + 2 ^ (blen c + k))))).Perm ((hs ++ kids c (k + 1)).map (item ps)) := by
  have e : kids c (k + 1) = kids c k ++ [c + 2 ^ (blen c + k)] := by simp [kids, List.range_succ]
  refine (hx.map _).trans ?_
  rw [List.map_append, setKey_map hne, e, ← List.append_assoc, List.map_append, List.map_cons, List.map_nil, setKey_self]
  exact hp.append_right _
end Mine
end PartTRP
section PartTR
set_option maxRecDepth 100000
set_option maxHeartbeats 4000000
set_option pp.deepTerms false
set_option pp.deepTerms.threshold 5
set_option pp.maxSteps 20000
namespace Mine
local macro_rules | `(tactic| walk_at "InvEndN") => `(tactic| (refine Stop.out ?_))
local macro_rules | `(tactic| walk_at "InvEndG") => `(tactic| (refine Stop.out ?_))
local macro_rules | `(tactic| walk_at "KswEnd") => `(tactic| (refine Stop.out ?_))
local macro_rules | `(tactic| walk_at "execs cons") => `(tactic| dsimp only)
local macro_rules | `(tactic| walk_at "execs nil") => `(tactic| dsimp only)
local macro_rules | `(tactic| walk_at "binaryOp") => `(tactic| dsimp only)
def fitB (ns bs : List Nat) (ck : Int) (c : Nat) : Bool := decide (((((flipTo ns bs c 4).foldl fitStep 4294967295) ^^^ 4294967295 : Nat) : Int) = ck)
structure TS where
  as : List Addr
  us : List Addr
  hs : List Nat
  ts : List Nat
  key : Addr → T3
  nh : Nat
  nt : Nat
  tl : List (Addr × Obj)
structure TInv (ps ns bs : List Nat) (ck : Int) (lt : Addr) (c : TS) : Prop where
  above : ∀ p ∈ c.tl, lt < p.1
  perm : (c.as.map c.key).Perm (c.hs.map (item ps))
  tup : ∀ a ∈ c.as, TupOK c.tl c.key a
  heap : IsHeap c.key c.as
  enum : EInv ps c.hs c.ts
  tried : TriedOK ps (fitB ns bs ck) c.tl c.us c.ts
abbrev cstL (lt r b pr : Addr) (us : List Addr) (nt nr nb np : Nat) (vs bvs pvs : List Value) (tl rest : List (Addr × Obj)) : List (Addr × Obj) :=
  (lt, listOf (refsOf us) nt) :: (r, listOf vs.toArray nr) :: (b, listOf bvs.toArray nb) :: (pr, listOf pvs.toArray np) :: (tl ++ rest)
theorem allLt_mem9 {d : Nat} : ∀ {r : List (Addr × Obj)}, AllLt d r → ∀ p ∈ r, p.1 < d
  | [], _, _, hp => nomatch hp
  | _ :: _, h, p, hp => (List.mem_cons.mp hp).elim (fun e => e ▸ h.1) fun hp => allLt_mem9 h.2 p hp
theorem tried_spec {w : World} {mean : ExcName → Option Value} {mg mb : Str → Option Value} {dp un : Nat} {gd : Option (List Code)} {cn : Str} {cs : Scope} {a : Addr} {ccd : Value} {cl : List (Str × Addr)} {outer : List Env} {A₀ : Around} {base h₀ : Heap} {L : Addr} {m : Str → Option Value} {s : Shared} {Q E : Value → Shared → Prop}
  {rest : List (Addr × Obj)} {r b pr : Addr} {vs bvs pvs : List Value} {nr nb np : Nat} {ns bs ps : List Nat} {ck : Int} {tc : Tok}
  (hB : Below A₀ base outer h₀) (F : Fr h₀ L s.heap m) (X : (hd.heap_39 w.params).In h₀) (N : News h₀ L s.heap ((r, listOf vs.toArray nr) :: (b, listOf bvs.toArray nb) :: (pr, listOf pvs.toArray np) :: rest)) (hT : Top hd.view_39 (looseW hd.view_39 []) mean mg mb h₀) (hk : cs.kind = .function)
  (hi : IntsAre vs (zs ns)) (hbi : IntsAre bvs (zs bs)) (hpi : IntsAre pvs (zs ps)) (hnl : ns.length = 5) (hbl : bs.length = 4) (hpl : ps.length = 4) (hbb : ∀ x ∈ bs, x < 40) (hdp : dp + 8 < recursionLimit) (hun : un + 64 < cLine)
  (hret : ∀ D us ts tl n' h' tk', Fr h₀ L h' m → News h₀ L h' ((D, listOf (refsOf us) n') :: (r, listOf vs.toArray nr) :: (b, listOf bvs.toArray nb) :: (pr, listOf pvs.toArray np) :: (tl ++ rest)) → TriedOK ps (fitB ns bs ck) tl us ts → ts.Pairwise (klt ps) → ts.Perm (List.range 16) → Q (.ref D) { s with heap := h', toks := tk' }) :
  wpAny (model Challenge.rw_mq0079_01.row.prog w) (ktrTop dp un gd cn cs L a ccd cl outer) (call (.ref 87) [.ref r, .int ck tc, .ref b, .ref pr]) Q E s := by
  k_with_none
  k_with "exec For Name Call cons nil" => kpr_for
  k_with "pyIter ref" => (refine Stop.out ?_)
  k_with "exec While Compare cons nil" => (refine Stop.out ?_)
  k_with "call ref cons nil" => (refine Stop.out ?_)
  k_with "compareOp NotEq ref ref" => (refine Stop.out ?_)
  k_with "call builtin:list.append cons nil" => (refine Stop.out ?_)
  revert X; k_fill; intro X
  refine wpAny_call ?_
  k_dflt ktr_enter
  k_steps
  refine Stop.mk ?_
  rename Fr _ _ _ _ => F1
  rename News _ _ _ _ => N1
  rename_i lh _ lt1 lt _ lt2 Dt _ lt3 _ _ _ D0 _ lt4
  have hr1 : ∀ p ∈ rest, p.1 < lh := allLt_mem9 lt1.2.2.2
  have hlt0 : lh < lt := lt2.1
  have hD0 : lt < D0 := lt4.2.1
  have hneH : ∀ (tl : List (Addr × Obj)) (o : Obj), (∀ p ∈ tl, lt < p.1) → ∀ p ∈ (lt, o) :: (r, listOf vs.toArray nr) :: (b, listOf bvs.toArray nb) :: (pr, listOf pvs.toArray np) :: (tl ++ rest), p.1 ≠ lh := fun tl o h p hp => by
    simp only [List.mem_cons, List.mem_append] at hp
    rcases hp with rfl | rfl | rfl | rfl | hp | hp
    · exact Nat.ne_of_gt hlt0
    · exact Nat.ne_of_lt lt1.1
    · exact Nat.ne_of_lt lt1.2.1
    · exact Nat.ne_of_lt lt1.2.2.1
    · exact Nat.ne_of_gt (Nat.lt_trans hlt0 (h p hp))
    · exact Nat.ne_of_lt (hr1 p hp)
  have hneT : ∀ (tl : List (Addr × Obj)) (o : Obj), (∀ p ∈ tl, lt < p.1) → ∀ p ∈ (lh, o) :: (r, listOf vs.toArray nr) :: (b, listOf bvs.toArray nb) :: (pr, listOf pvs.toArray np) :: (tl ++ rest), p.1 ≠ lt := fun tl o h p hp => by
    simp only [List.mem_cons, List.mem_append] at hp
    rcases hp with rfl | rfl | rfl | rfl | hp | hp
    · exact Nat.ne_of_lt hlt0
    · exact Nat.ne_of_lt lt2.2.1
    · exact Nat.ne_of_lt lt2.2.2.1
    · exact Nat.ne_of_lt lt2.2.2.2.1
    · exact Nat.ne_of_gt (h p hp)
    · exact Nat.ne_of_lt (Nat.lt_trans (hr1 p hp) hlt0)
  obtain ⟨t1, t2, t3, N2⟩ : ∃ t1 t2 t3, News _ _ _ ((lh, listOf (refsOf []) 0) :: (lt, listOf (refsOf []) 0) :: (r, listOf vs.toArray nr) :: (b, listOf bvs.toArray nb) :: (pr, listOf pvs.toArray np) :: ([(D0, tupObj (0, 0, 0) t1 t2 t3 0)] ++ rest)) :=
    ⟨_, _, _, fun p hp => N1 p (by
      simp only [List.mem_cons, List.mem_append, List.not_mem_nil, or_false] at hp ⊢
      rcases hp with h | h | h | h | h | h | h
      · exact .inr (.inr (.inr (.inl h)))
      · exact .inr (.inr (.inl h))
      · exact .inr (.inr (.inr (.inr (.inl h))))
      · exact .inr (.inr (.inr (.inr (.inr (.inl h)))))
      · exact .inr (.inr (.inr (.inr (.inr (.inr (.inl h))))))
      · exact .inl h
      · exact .inr (.inr (.inr (.inr (.inr (.inr (.inr h)))))))⟩
  have ha0 : ∀ p ∈ [(D0, tupObj (0, 0, 0) t1 t2 t3 0)], lt < p.1 := fun p hp => by rw [List.mem_singleton.mp hp]; exact hD0
  clear N1
  k_dflt (refine' heappush_spec (key := fun _ => ((0 : Int), (0 : Int), (0 : Int))) ?kB ?kF ?kX N2 ?kT ?kk (hneH _ _ ha0) (fun _ h => nomatch h) ⟨t1, t2, t3, 0, by simp⟩ ?kl (fun i h1 h2 => absurd h2 (Nat.not_lt_zero _)) ?kd ?ku ?kR; (case kB => k_asm); (case kF => k_asm); (case kX => k_asm); (case kT => k_asm); (case kk => exact rfl); (case kl => exact Nat.zero_lt_succ _); (case kd => ktr_room); (case ku => ktr_units))
  intro as' h9 tk9 F9 N9 hp9 hh9
  obtain rfl : as' = [D0] := List.perm_singleton.mp hp9
  clear F1 N2
  k_steps
  refine Stop.mk ?_
  rename Fr _ _ _ _ => F1
  rename News _ _ _ _ => N1
  have hi0 : item ps 0 = (0, 0, 0) := by simp [item, price, bitOf, blen]
  refine' ksw_while (σ := TS) (fun c => (lh, listOf (refsOf c.as) c.nh) :: (lt, listOf (refsOf c.us) c.nt) :: (r, listOf vs.toArray nr) :: (b, listOf bvs.toArray nb) :: (pr, listOf pvs.toArray np) :: (c.tl ++ rest)) (fun _ => []) (fun _ => True) [Str.ofString "price", Str.ofString "choice", Str.ofString "behind", Str.ofString "place"]
    (TInv ps ns bs ck lt) (fun c => 16 - c.ts.length) ⟨[D0], [], [0], [], fun _ => ((0 : Int), (0 : Int), (0 : Int)), 1, 0, [(D0, tupObj (0, 0, 0) t1 t2 t3 0)]⟩ F1 N1 trivial ?ka ?kp ?kt
  case ka => exact fun p hp => nomatch hp
  case kp => exact ⟨ha0, by simp [hi0], fun a ha => ⟨t1, t2, t3, 0, by simp [List.mem_singleton.mp ha]⟩, hh9, EInv.start ps, trivial⟩
  case kt =>
    rintro ⟨as, us, hs, ts, key, nh, nt, tl⟩ u h3 tk3 - ⟨i1, i2, i3, i4, i5, i6⟩ F2 N2
    dsimp only at i1 i2 i3 i4 i5 i6 F2 N2 ⊢
    clear F1 N1
    k_steps
    refine Stop.mk ?_
    rename Fr _ _ _ _ => F3
    rename News _ _ _ _ => N3
    k_dflt (refine' ne_nil_refs N3 (.tail _ (.head _)) (.head _) ?ku1 ?_; (case ku1 => ktr_units))
    have N4 : News _ _ _ ((lh, listOf (refsOf as) nh) :: (lt, listOf (refsOf us) nt) :: (r, listOf vs.toArray nr) :: (b, listOf bvs.toArray nb) :: (pr, listOf pvs.toArray np) :: (tl ++ rest)) := fun p hp => N3 p (.tail _ hp)
    clear N3
    (try dsimp only)
    have hfew := i5.few
    have halen : as.length = hs.length := by simpa using i2.length_eq
    by_cases hnil : as = []
    · subst hnil
      obtain rfl : hs = [] := List.eq_nil_of_length_eq_zero (by simpa using halen.symm)
      k_steps
      rename Fr h₀ _ _ _ => F5
      rename News h₀ _ _ _ => N5
      exact hret _ _ _ _ _ _ _ F5 (fun p hp => N5 p (.tail _ hp)) i6 i5.sorted i5.all
    · have hemp : as.isEmpty = false := by simpa using hnil
      rw [hemp]
      k_steps
      refine Stop.mk ?_
      have hupT : ∀ a ∈ as, TupOK ((lt, listOf (refsOf us) nt) :: (r, listOf vs.toArray nr) :: (b, listOf bvs.toArray nb) :: (pr, listOf pvs.toArray np) :: (tl ++ rest)) key a := fun a ha => (i3 a ha).mono fun p hp => by simp [hp]
      k_dflt (refine' heappop_spec ?kB2 ?kF2 ?kX2 N4 ?kT2 ?kk2 (hneH _ _ i1) hupT hnil ?kl2 i4 ?kd2 ?ku2 ?kR2; (case kB2 => k_asm); (case kF2 => k_asm); (case kX2 => k_asm); (case kT2 => k_asm); (case kk2 => exact rfl); (case kl2 => omega); (case kd2 => ktr_room); (case ku2 => ktr_units))
      intro x as1 h5 n5 tk5 F5 N5 hp5 hh5 hmin5
      obtain ⟨c, hs', hkx, hc16, hperm, henum⟩ := pop_choice i2 hp5 hmin5 i5
      obtain ⟨x1, x2, x3, xn, hxm⟩ := i3 x (hp5.mem_iff.mp (.head _))
      rw [hkx] at hxm
      have N6 : News _ _ _ ((x, tupObj (item ps c) x1 x2 x3 xn) :: (lh, listOf (refsOf as1) n5) :: (lt, listOf (refsOf us) nt) :: (r, listOf vs.toArray nr) :: (b, listOf bvs.toArray nb) :: (pr, listOf pvs.toArray np) :: (tl ++ rest)) := fun p hp => (List.mem_cons.mp hp).elim (fun e => e ▸ N5 _ (by simp [hxm])) fun hp => N5 p hp
      clear N5 N4 F3
      unfold item at N6
      k_steps
      refine Stop.mk ?_
      rename News _ _ _ _ => N7
      k_dflt (refine' flipped_spec c ?kB3 ?kF3 ?kX3 N7 ?kT3 ?kk3 (.tail _ (.tail _ (.tail _ (.head _)))) hi (.tail _ (.tail _ (.tail _ (.tail _ (.head _))))) hbi rfl hbl hnl hbb ?kd3 ?ku3 ?kR3; (case kB3 => k_asm); (case kF3 => k_asm); (case kX3 => k_asm); (case kT3 => k_asm); (case kk3 => exact rfl); (case kd3 => ktr_room); (case ku3 => ktr_units))
      intro D1 ws1 h6 n6 tk6 F6 N8 hD1 hI1
      clear N7
      k_steps
      refine Stop.mk ?_
      k_dflt (refine' fits_spec ?kB4 ?kF4 ?kX4 N8 ?kT4 ?kk4 (.head _) hI1 ?kd4 ?ku4 ?kR4; (case kB4 => k_asm); (case kF4 => k_asm); (case kX4 => k_asm); (case kT4 => k_asm); (case kk4 => exact rfl); (case kd4 => ktr_room); (case ku4 => ktr_units))
      intro h7 tk7 F7 N9
      clear N8
      k_steps
      refine Stop.mk ?_
      rename Fr _ _ _ _ => F8
      rename News _ _ _ _ => N10
      rename_i D2 _ lt5
      have hD2 : lt < D2 := lt5.2.2.2.1
      obtain ⟨q1, q2, N11⟩ : ∃ q1 q2, News _ _ _ ((lt, listOf (refsOf us) nt) :: (lh, listOf (refsOf as1) n5) :: (r, listOf vs.toArray nr) :: (b, listOf bvs.toArray nb) :: (pr, listOf pvs.toArray np) :: (((D2, triObj (price ps c) c (fitB ns bs ck c) q1 q2 0) :: tl) ++ rest)) :=
        ⟨_, _, fun p hp => N10 p (by
          simp only [List.mem_cons, List.mem_append, List.cons_append] at hp ⊢
          rcases hp with h | h | h | h | h | h | h | h
          · simp [h]
          · simp [h]
          · simp [h]
          · simp [h]
          · simp [h]
          · exact .inl h
          · simp [h]
          · simp [h])⟩
      have i1' : ∀ p ∈ (D2, triObj (price ps c) c (fitB ns bs ck c) q1 q2 0) :: tl, lt < p.1 := fun p hp => (List.mem_cons.mp hp).elim (fun e => e ▸ hD2) (i1 p)
      have hus := i6.length
      clear N10
      k_dflt (refine' append_refs F8 N11 (hneT _ _ i1') ?kl5 ?kR5; (case kl5 => omega))
      intro h8 F9 N12
      have N13 : News _ _ _ ((lh, listOf (refsOf as1) n5) :: (lt, listOf (refsOf (us ++ [D2])) (nt + 1)) :: (r, listOf vs.toArray nr) :: (b, listOf bvs.toArray nb) :: (pr, listOf pvs.toArray np) :: (((D2, triObj (price ps c) c (fitB ns bs ck c) q1 q2 0) :: tl) ++ rest)) := fun p hp => N12 p (by
        rcases List.mem_cons.mp hp with h | hp
        · simp [h]
        · rcases List.mem_cons.mp hp with h | hp
          · simp [h]
          · exact .tail _ (.tail _ hp))
      clear N12 N11 F8
      k_steps
      refine Stop.mk ?_
      rename Fr _ _ _ _ => F10
      rename News _ _ _ _ => N14
      rename IsRange _ _ _ _ _ _ _ _ => R1
      have hbl4 := blen_le c hc16
      have hnn : ((4 : Int) - (blen c : Int)).toNat = 4 - blen c := by omega
      with_unfolding_all refine' kd_range (σ := List Addr × (Addr → T3) × Nat) (a₀ := (blen c : Int)) (b₀ := 4) (n := ((4 : Int) - (blen c : Int)).toNat) (fun d => [(lh, listOf (refsOf d.1) d.2.2)]) (cstL lt r b pr (us ++ [D2]) (nt + 1) nr nb np vs bvs pvs ((D2, triObj (price ps c) c (fitB ns bs ck c) q1 q2 0) :: tl) rest) (fun _ => []) (fun led d => (∀ a ∈ d.1, TupOK (((D2, triObj (price ps c) c (fitB ns bs ck c) q1 q2 0) :: tl) ++ led.drop (cstL lt r b pr (us ++ [D2]) (nt + 1) nr nb np vs bvs pvs ((D2, triObj (price ps c) c (fitB ns bs ck c) q1 q2 0) :: tl) rest).length) d.2.1 a) ∧ ∀ p ∈ led.drop (cstL lt r b pr (us ++ [D2]) (nt + 1) nr nb np vs bvs pvs ((D2, triObj (price ps c) c (fitB ns bs ck c) q1 q2 0) :: tl) rest).length, lt < p.1) [] (fun pre d => (d.1.map d.2.1).Perm ((hs' ++ kids c pre.length).map (item ps)) ∧ IsHeap d.2.1 d.1) (lh :: (cstL lt r b pr (us ++ [D2]) (nt + 1) nr nb np vs bvs pvs ((D2, triObj (price ps c) c (fitB ns bs ck c) q1 q2 0) :: tl) rest).map (·.1)) (as1, key, n5) (by rfl) R1 ?ksm (rangeSize_nat _ _) F10 N14 ?kn6 (fun _ => rfl) ?kf6 ?ka6 ?kp6 ?kt6 ?kd6
      case ksm => exact small_one (by omega) (by omega) (by omega) (by omega)
      case kn6 => simp only [List.append_nil, List.cons_append, List.nil_append]; exact fun p hp => hp
      case kf6 =>
        simp only [List.append_nil, List.drop_length]
        exact ⟨fun a ha => (i3 a (hp5.mem_iff.mp (.tail _ ha))).mono fun p hp => .tail _ hp, fun _ h => nomatch h⟩
      case ka6 => exact fun p hp => nomatch hp
      case kp6 => exact ⟨by simpa [kids] using hperm, hh5⟩
      case kt6 =>
        rintro ⟨as2, key2, n2⟩ tl2 pre k tk u6 h10 tk10 own hk1 hk2 hsep hoff ⟨hf1, hf2⟩ ⟨hq1, hq2⟩ F11 N15
        dsimp only at hq1 hq2 F11 N15 ⊢
        simp only [List.drop_left] at hf1 hf2
        clear F10 N14
        have hk4 : pre.length < 4 - blen c := by omega
        have hkN : k.toNat = blen c + pre.length := by omega
        have N16 : News _ _ _ ((lh, listOf (refsOf as2) n2) :: (lt, listOf (refsOf (us ++ [D2])) (nt + 1)) :: (r, listOf vs.toArray nr) :: (b, listOf bvs.toArray nb) :: (pr, listOf pvs.toArray np) :: (((D2, triObj (price ps c) c (fitB ns bs ck c) q1 q2 0) :: tl) ++ rest ++ (tl2 ++ own))) := N15
        clear N15
        k_steps
        refine Stop.mk ?_
        rename Fr _ _ _ _ => F12
        rename News _ _ _ _ => N17
        rename_i D3 _ lt6
        have hkp := kid_price ps hc16 hk4
        have hkb := kid_blen c hc16 pre.length hk4
        have hw1 : (price ps c : Int) + (zs ps).getD k.toNat 0 = ((price ps (c + 2 ^ (blen c + pre.length)) : Nat) : Int) := by
          rw [zs_getD, hkN, hkp]; omega
        have hw2 : (c : Int) + 2 ^ k.toNat = ((c + 2 ^ (blen c + pre.length) : Nat) : Int) := by
          rw [hkN, pow_nat]; omega
        have hw3 : k + 1 = ((blen (c + 2 ^ (blen c + pre.length)) : Nat) : Int) := by rw [hkb]; omega
        (try dsimp only at N17)
        rw [hw1, hw2, hw3] at N17
        have hlt6 : ∀ p ∈ ((D2, triObj (price ps c) c (fitB ns bs ck c) q1 q2 0) :: tl) ++ rest ++ (tl2 ++ own), p.1 < D3 := allLt_mem9 lt6.2.2.2.2.2
        have has2 : ∀ a ∈ as2, a ≠ D3 := fun a ha => by
          obtain ⟨_, _, _, _, hm⟩ := hf1 a ha
          rcases List.mem_append.mp hm with h | h
          · exact Nat.ne_of_lt (hlt6 (a, _) (List.mem_append.mpr (.inl (List.mem_append.mpr (.inl h)))))
          · exact Nat.ne_of_lt (hlt6 (a, _) (List.mem_append.mpr (.inr (List.mem_append.mpr (.inl h)))))
        obtain ⟨w1, w2, w3, N18⟩ : ∃ w1 w2 w3, News _ _ _ ((lh, listOf (refsOf as2) n2) :: (D3, tupObj (item ps (c + 2 ^ (blen c + pre.length))) w1 w2 w3 0) :: (lt, listOf (refsOf (us ++ [D2])) (nt + 1)) :: (r, listOf vs.toArray nr) :: (b, listOf bvs.toArray nb) :: (pr, listOf pvs.toArray np) :: (((D2, triObj (price ps c) c (fitB ns bs ck c) q1 q2 0) :: tl) ++ rest ++ (tl2 ++ own))) :=
          ⟨_, _, _, fun p hp => N17 p (by
            rcases List.mem_cons.mp hp with h | hp
            · exact .tail _ (h ▸ .head _)
            · rcases List.mem_cons.mp hp with h | hp
              · exact h ▸ .head _
              · exact .tail _ (.tail _ hp))⟩
        have hne6 : ∀ p ∈ (D3, tupObj (item ps (c + 2 ^ (blen c + pre.length))) w1 w2 w3 0) :: (lt, listOf (refsOf (us ++ [D2])) (nt + 1)) :: (r, listOf vs.toArray nr) :: (b, listOf bvs.toArray nb) :: (pr, listOf pvs.toArray np) :: (((D2, triObj (price ps c) c (fitB ns bs ck c) q1 q2 0) :: tl) ++ rest ++ (tl2 ++ own)), p.1 ≠ lh := fun p hp => by
          rcases List.mem_cons.mp hp with rfl | hp
          · exact Nat.ne_of_gt lt6.1
          · have : p ∈ cstL lt r b pr (us ++ [D2]) (nt + 1) nr nb np vs bvs pvs ((D2, triObj (price ps c) c (fitB ns bs ck c) q1 q2 0) :: tl) rest ++ (tl2 ++ own) := hp
            rcases List.mem_append.mp this with h | h
            · exact hneH _ _ i1' p h
            · exact hoff p h lh (.head _)
        clear N17
        k_dflt (refine' heappush_spec (key := setKey key2 D3 (item ps (c + 2 ^ (blen c + pre.length)))) ?kB7 ?kF7 ?kX7 N18 ?kT7 ?kk7 hne6 ?kt7 ?kx7 ?kl7 (setKey_heap has2 hq2) ?kd7 ?ku7 ?kR7; (case kB7 => k_asm); (case kF7 => k_asm); (case kX7 => k_asm); (case kT7 => k_asm); (case kk7 => exact rfl); (case kd7 => ktr_room); (case ku7 => ktr_units))
        case kt7 =>
          intro a ha
          refine setKey_tup (has2 a ha) ((hf1 a ha).mono fun p hp => ?_)
          rcases List.mem_append.mp hp with h | h
          · exact .tail _ (.tail _ (.tail _ (.tail _ (.tail _ (List.mem_append.mpr (.inl (List.mem_append.mpr (.inl h))))))))
          · exact .tail _ (.tail _ (.tail _ (.tail _ (.tail _ (List.mem_append.mpr (.inr (List.mem_append.mpr (.inl h))))))))
        case kx7 => exact ⟨w1, w2, w3, 0, by rw [setKey_self]; exact .head _⟩
        case kl7 =>
          have h1 := hq1.length_eq
          have h2 := henum.few
          simp [kids] at h1 h2
          omega
        case kR7 =>
          intro as3 h11 tk11 F13 N19 hp13 hh13
          k_steps
          refine Stop.mk ?_
          rename Fr _ _ _ _ => F14
          rename News _ _ _ _ => N20
          have hadr : ∀ x ∈ lh :: (cstL lt r b pr (us ++ [D2]) (nt + 1) nr nb np vs bvs pvs ((D2, triObj (price ps c) c (fitB ns bs ck c) q1 q2 0) :: tl) rest).map (·.1), x < D3 := fun x hx => by
            simp only [List.map_cons, List.mem_cons] at hx
            rcases hx with rfl | rfl | rfl | rfl | rfl | hx
            · exact lt6.1
            · exact lt6.2.1
            · exact lt6.2.2.1
            · exact lt6.2.2.2.1
            · exact lt6.2.2.2.2.1
            · obtain ⟨p, hp, rfl⟩ := List.mem_map.mp hx
              exact hlt6 p (List.mem_append.mpr (.inl hp))
          refine' kd_end (as3, setKey key2 D3 (item ps (c + 2 ^ (blen c + pre.length))), n2 + 1) [(D3, tupObj (item ps (c + 2 ^ (blen c + pre.length))) w1 w2 w3 0)] hsep F14 N20 ?kg1 ?kg2 rfl ?kg3 ?kg4 ?kg5 ?kg6 ?kg7 ?kg8
          case kg1 =>
            intro p hp
            simp only [List.mem_cons, List.mem_append, List.cons_append, List.nil_append] at hp ⊢
            rcases hp with h | h | h | h | h | h | (h | h) | h | h <;> simp [h]
          case kg2 => exact fun p hp => .tail _ (.tail _ (.tail _ (.tail _ (.tail _ (.tail _ (List.mem_append.mpr (.inr (List.mem_append.mpr (.inr hp)))))))))
          case kg3 => exact fun q hq x hx => by rw [List.mem_singleton.mp hq]; exact Nat.ne_of_lt (hadr x hx)
          case kg4 => exact fun q hq p hp => by rw [List.mem_singleton.mp hq]; exact Nat.ne_of_lt (hlt6 p (List.mem_append.mpr (.inr (List.mem_append.mpr (.inr hp)))))
          case kg5 => exact fun p hp => nomatch hp
          case kg6 =>
            intro z h1 h2 h3
            simp only [kstB, if_neg h1, h3, Bool.false_eq_true, if_false]
          case kg7 =>
            simp only [List.drop_left]
            refine ⟨fun x hx => ?_, fun p hp => ?_⟩
            · rcases List.mem_append.mp (hp13.mem_iff.mp hx) with h | h
              · refine setKey_tup (has2 x h) ((hf1 x h).mono fun p hp => ?_)
                refine (show p ∈ ((D2, triObj (price ps c) c (fitB ns bs ck c) q1 q2 0) :: tl) ++ ((D3, tupObj (item ps (c + 2 ^ (blen c + pre.length))) w1 w2 w3 0) :: tl2) from ?_)
                rcases List.mem_append.mp hp with h | h
                · exact List.mem_append.mpr (.inl h)
                · exact List.mem_append.mpr (.inr (.tail _ h))
              · rw [List.mem_singleton.mp h]
                exact ⟨w1, w2, w3, 0, by rw [setKey_self]; exact (show (D3, tupObj (item ps (c + 2 ^ (blen c + pre.length))) w1 w2 w3 0) ∈ ((D2, triObj (price ps c) c (fitB ns bs ck c) q1 q2 0) :: tl) ++ ((D3, tupObj (item ps (c + 2 ^ (blen c + pre.length))) w1 w2 w3 0) :: tl2) from List.mem_append.mpr (.inr (.head _)))⟩
            · rcases List.mem_cons.mp hp with rfl | hp
              · exact lt6.2.1
              · exact hf2 p hp
          case kg8 =>
            dsimp only
            rw [List.length_append, List.length_singleton]
            exact ⟨push_choice hq1 hp13 has2, hh13⟩
      case kd6 =>
        rintro ⟨as2, key2, n2⟩ tl2 u6 h10 tk10 hoff ⟨hf1, hf2⟩ ⟨hq1, hq2⟩ F11 N15
        dsimp only at hq1 hq2 F11 N15 ⊢
        simp only [List.drop_left] at hf1 hf2
        rw [rangeKs_length, hnn] at hq1
        k_steps
        refine Stop.mk ?_
        have hlen2 := henum.few
        refine' ksw_end ⟨as2, us ++ [D2], hs' ++ kids c (4 - blen c), ts ++ [c], key2, n2, nt + 1, ((D2, triObj (price ps c) c (fitB ns bs ck c) q1 q2 0) :: tl) ++ tl2⟩ F11 N15 ?ke1 trivial ?ke2 ?ke3 ?ke4 ?ke5
        case ke1 =>
          intro p hp
          simp only [List.mem_cons, List.mem_append, List.cons_append, List.nil_append] at hp ⊢
          rcases hp with h | h | h | h | h | h | (h | h) | h <;> simp [h]
        case ke2 => exact fun p hp => nomatch hp
        case ke3 =>
          intro z h2 h3
          have n1 : z ≠ Str.ofString "price" := fun e => by subst e; simp at h3
          have n2 : z ≠ Str.ofString "choice" := fun e => by subst e; simp at h3
          have n3 : z ≠ Str.ofString "behind" := fun e => by subst e; simp at h3
          have n4 : z ≠ Str.ofString "place" := fun e => by subst e; simp at h3
          simp only [kstB, if_neg n1, if_neg n2, if_neg n3, if_neg n4, h3, List.contains_nil, Bool.false_eq_true, if_false]
        case ke4 =>
          exact ⟨fun p hp => (List.mem_append.mp hp).elim (i1' p) (hf2 p), hq1, hf1, hq2, henum, (i6.mono fun p hp => by simp [hp]).snoc (t1 := q1) (t2 := q2) (n := 0) (List.mem_append_left _ (.head _))⟩
        case ke5 =>
          have hlen3 : (ts ++ [c]).length = ts.length + 1 := by simp
          have : ts.length + 1 ≤ 16 := by rw [hlen3] at hlen2; omega
          show 16 - (ts ++ [c]).length < 16 - ts.length
          omega
end Mine
end PartTR
section PartCL
set_option maxRecDepth 100000
set_option maxHeartbeats 4000000
namespace Mine
def RngEnd (h₀ : Heap) (L I : Addr) (oI : Obj) (J : (Str → Option Value) → List (Addr × Obj) → Prop) (s₁ : Shared) (f : Flow) (s₄ : Shared) : Prop :=
  f = .next ∧ ∃ h' tk' m' news', s₄ = { s₁ with heap := h', toks := tk' } ∧ Fr h₀ L h' m' ∧ News h₀ L h' ((I, oI) :: news') ∧ (∀ p ∈ news', p.1 ≠ I) ∧ J m' news'
section
variable {prog : Program} {w : World} {A : Around} {E : Value → Shared → Prop} {s : Shared} {env : Env} {h₀ : Heap} {body : List Stmt} {Q : Flow → Shared → Prop}
/-- a loop over a range whose target may be a cell -/
theorem range_any {x : Str} {px : Pos} {r : Addr} {a₀ b₀ : Int} {t₀ u₀ v₀ : Tok} {n : Nat} {m₀ : Str → Option Value} {news : List (Addr × Obj)} (J : Addr → Nat → (Str → Option Value) → List (Addr × Obj) → Prop)
    (hh : A.handled = none) (hr : IsRange s.heap r a₀ b₀ 1 t₀ u₀ v₀) (hsmall : Builtin.Range.small a₀ b₀ 1 = true) (hn : Builtin.Range.rangeSize a₀ b₀ 1 = (n : Int)) (F : Fr h₀ env.locals s.heap m₀) (N : News h₀ env.locals s.heap news)
    (h0 : ∀ I, (∀ p ∈ news, p.1 < I) → J I 0 m₀ news)
    (turn : ∀ I i t m₁ news₁ (s₁ : Shared) oI, i < n → J I i m₁ news₁ → (∀ p ∈ news₁, p.1 ≠ I) → Fr h₀ env.locals s₁.heap m₁ → News h₀ env.locals s₁.heap ((I, oI) :: news₁) →
      wpAny (model prog w) A (storeName env x (.int (a₀ + (i : Int)) t)) (fun _ s₃ => wpAny (model prog w) A (execs body env) (RngEnd h₀ env.locals I oI (J I (i + 1)) s₁) E s₃) E s₁)
    (done : ∀ I m' news' h tk, Fr h₀ env.locals h m' → News h₀ env.locals h news' → J I n m' news' → Q .next { s with heap := h, toks := tk }) :
    wpAny (model prog w) A (pyIter (.ref r)) (fun it s₂ => LoopAtT prog w A h₀ env (.Name x px) body Q E it s₂) E s := by
  refine wpAny_pyIter_range hr hsmall ?_
  have W : Walks prog w A s.heap.objs.size [s.heap.objs.size] [s.heap.objs.size] n (fun i v => i < n ∧ ∃ t, v = .int (a₀ + i * 1) t)
      (fun i h => IsRangeIter h s.heap.objs.size (a₀ + (i : Nat) * 1) ((n : Int) - (i : Nat)) 1) := (Walks.range hh _ a₀ 1 n).bound
  refine ⟨_, _, _, n, _, _, m₀, news, J s.heap.objs.size, rfl, W, ?_, ?_, ?_, (by show IsRangeIter _ _ _ _ _; rw [hn]; simpa using Heap.get?_push_size _ rfl), F.push _, (fun p hp => ⟨Heap.get?_push_of_some _ (N p hp).1, (N p hp).2⟩), fun _ _ _ _ _ h => wpAny_pure h, h0 _ fun p hp => Heap.lt_size (N p hp).1, ?_, ?_⟩
  · intro hm
    exact absurd F.ns.lt ((List.mem_singleton.mp hm) ▸ Nat.lt_irrefl _)
  · intro b hb
    rw [List.mem_singleton.mp hb]
    exact next_is_new F
  · intro p hp hI
    exact absurd (Heap.lt_size (N p hp).1) ((List.mem_singleton.mp hI) ▸ Nat.lt_irrefl _)
  · rintro i v m₁ news₁ s₁ own hi ⟨_, t, rfl⟩ hJ hoff hown hgot hall hst F₁ N₁
    obtain ⟨oI, hoI⟩ : ∃ o, s₁.heap.get? s.heap.objs.size = some o := ⟨_, hst⟩
    have hm : (s.heap.objs.size, oI) ∈ own := hall _ (.head _) (next_is_new F) oI hoI
    have hown' : ∀ p ∈ own, p = (s.heap.objs.size, oI) := fun p hp => by
      have h1 := List.mem_singleton.mp (hown p hp)
      have h2 := hgot p hp
      rw [h1, hoI] at h2
      exact Prod.ext h1 (Option.some.inj h2).symm
    have e1 : a₀ + (i : Int) * 1 = a₀ + (i : Int) := by omega
    rw [e1]
    refine wpAny_assign_Name (wpAny_mono (turn s.heap.objs.size i t m₁ news₁ s₁ oI hi hJ (fun p hp h => hoff p hp (by simp [h])) F₁ (fun p hp => N₁ p ((List.mem_cons.mp hp).elim (fun e => e ▸ List.mem_append_left _ hm) (List.mem_append_right _)))) (fun _ s₃ h₃ => wpAny_mono h₃ (fun f s₄ h₄ => ?_) fun _ _ e => e) fun _ _ e => e)
    obtain ⟨rfl, h', tk', m', news', rfl, F', N', hn', hJ'⟩ := h₄
    exact ⟨rfl, h', tk', m', news', rfl, F', fun p hp => N' p ((List.mem_append.mp hp).elim (fun hp => (hown' p hp) ▸ .head _) (.tail _)), fun p hp h => hn' p hp (List.mem_singleton.mp h), hJ'⟩
  · intro h' tk m' news' F' N' _ hJ
    exact done _ m' news' h' tk F' N' hJ
end
end Mine
end PartCL
section PartDueP
namespace Mine
theorem sum4 (p : Int → Bool) (g : Int → Int) : (List.map g (List.filter p [0, 1, 2, 3])).sum = (if p 0 then g 0 else 0) + (if p 1 then g 1 else 0) + (if p 2 then g 2 else 0) + (if p 3 then g 3 else 0) := by
  simp only [List.filter]
  cases p 0 <;> cases p 1 <;> cases p 2 <;> cases p 3 <;> simp <;> omega
theorem bit_mul (c k x : Nat) : bitOf c k * x = if c / 2 ^ k % 2 = 1 then x else 0 := by
  unfold bitOf
  have : c / 2 ^ k % 2 = 0 ∨ c / 2 ^ k % 2 = 1 := by omega
  rcases this with h | h <;> simp [h]
theorem due_bit (i k : Nat) : ((((0 : Int) + (i : Int)).fdiv (2 ^ ((k : Nat) : Int).toNat)).fmod 2 == 1) = decide (i / 2 ^ k % 2 = 1) := by
  rw [Int.zero_add, Int.toNat_natCast, flip_test]
  rw [Bool.eq_iff_iff]
  simp only [beq_iff_eq, decide_eq_true_eq]
  omega
theorem due_price (ps : List Nat) (i : Nat) : (List.map (fun a : Int => (zs ps).getD a.toNat 0) (List.filter (fun a : Int => (((0 : Int) + (i : Int)).fdiv (2 ^ a.toNat)).fmod 2 == 1) (rangeInts 0 1 ((4 : Int) - 0).toNat))).sum = ((price ps i : Nat) : Int) := by
  have e : rangeInts 0 1 ((4 : Int) - 0).toNat = [0, 1, 2, 3] := by decide
  rw [e, sum4]
  have h0 : ((((0 : Int) + (i : Int)).fdiv (2 ^ Int.toNat 0)).fmod 2 == 1) = _ := due_bit i 0
  have h1 : ((((0 : Int) + (i : Int)).fdiv (2 ^ Int.toNat 1)).fmod 2 == 1) = _ := due_bit i 1
  have h2 : ((((0 : Int) + (i : Int)).fdiv (2 ^ Int.toNat 2)).fmod 2 == 1) = _ := due_bit i 2
  have h3 : ((((0 : Int) + (i : Int)).fdiv (2 ^ Int.toNat 3)).fmod 2 == 1) = _ := due_bit i 3
  rw [h0, h1, h2, h3]
  have g0 : (zs ps).getD (Int.toNat 0) 0 = _ := zs_getD ps 0
  have g1 : (zs ps).getD (Int.toNat 1) 0 = _ := zs_getD ps 1
  have g2 : (zs ps).getD (Int.toNat 2) 0 = _ := zs_getD ps 2
  have g3 : (zs ps).getD (Int.toNat 3) 0 = _ := zs_getD ps 3
  rw [g0, g1, g2, g3]
  unfold price
  rw [bit_mul, bit_mul, bit_mul, bit_mul]
  simp only [decide_eq_true_eq]
  (repeat' split) <;> omega
end Mine
end PartDueP
section PartSortP
namespace Mine
section
variable {N : Nat} {rk : Nat → Nat}
/-- a tree of questions answered by ranks: every question lies below N, and the leaf has Q -/
def Sat (N : Nat) (rk : Nat → Nat) {α : Type} : KasT α → (α → Prop) → Prop
  | .ret a, Q => Q a
  | .ask i j k, Q => i < N ∧ j < N ∧ Sat N rk (k (decide (rk i < rk j))) Q
theorem Sat.bind {α β : Type} {f : α → KasT β} {Q : β → Prop} : ∀ {t : KasT α}, Sat N rk t (fun a => Sat N rk (f a) Q) → Sat N rk (t.bind f) Q
  | .ret _, h => h
  | .ask _ _ _, h => ⟨h.1, h.2.1, Sat.bind h.2.2⟩
theorem Sat.mono {α : Type} {Q Q' : α → Prop} (hq : ∀ a, Q a → Q' a) : ∀ {t : KasT α}, Sat N rk t Q → Sat N rk t Q'
  | .ret _, h => hq _ h
  | .ask _ _ _, h => ⟨h.1, h.2.1, Sat.mono hq h.2.2⟩
theorem Sat.wp {α : Type} {cmp : Nat → Nat → (Bool → Shared → Prop) → Shared → Prop} {s : Shared} {Q : α → Prop} {R : α → Shared → Prop}
    (hc : ∀ i j (C : Bool → Shared → Prop), i < N → j < N → C (decide (rk i < rk j)) s → cmp i j C s) (hq : ∀ a, Q a → R a s) : ∀ {t : KasT α}, Sat N rk t Q → t.kasWp cmp R s
  | .ret _, h => hq _ h
  | .ask i j _, h => hc i j _ h.1 h.2.1 (Sat.wp hc hq h.2.2)

def PermOf (N : Nat) (p : Array Nat) : Prop := p.toList.Perm (List.range N)
theorem PermOf.size {p : Array Nat} (h : PermOf N p) : p.size = N := by
  have := h.length_eq; simpa using this
theorem PermOf.lt {p : Array Nat} (h : PermOf N p) (hN : 0 < N) (i : Nat) : p.getD i 0 < N := by
  by_cases hi : i < p.size
  · have : p[i] ∈ p.toList := by simp
    have := List.mem_range.mp (h.mem_iff.mp this)
    simpa [Array.getD, hi] using this
  · simpa [Array.getD, hi] using hN
theorem PermOf.inj {p : Array Nat} (h : PermOf N p) {i j : Nat} (hi : i < N) (hj : j < N) (hij : i ≠ j) : p.getD i 0 ≠ p.getD j 0 := by
  have hs := h.size
  have hnd : p.toList.Nodup := h.nodup_iff.mpr List.nodup_range
  have e1 : p.getD i 0 = p.toList[i]'(by simpa [hs] using hi) := by simp [Array.getD, hs, hi]
  have e2 : p.getD j 0 = p.toList[j]'(by simpa [hs] using hj) := by simp [Array.getD, hs, hj]
  rw [e1, e2]
  intro e
  exact hij ((List.getElem_inj hnd).mp e)
abbrev rkAt (rk : Nat → Nat) (p : Array Nat) (i : Nat) : Nat := rk (p.getD i 0)
theorem rkAt_ne {p : Array Nat} (h : PermOf N p) (hN : 0 < N) (hr : ∀ i j, i < N → j < N → rk i = rk j → i = j) {i j : Nat} (hi : i < N) (hj : j < N) (hij : i ≠ j) : rkAt rk p i ≠ rkAt rk p j :=
  fun e => h.inj hi hj hij (hr _ _ (h.lt hN i) (h.lt hN j) e)
def Asc (rk : Nat → Nat) (p : Array Nat) (n : Nat) : Prop := ∀ i j, i < j → j < n → rkAt rk p i < rkAt rk p j
def Desc (rk : Nat → Nat) (p : Array Nat) (n : Nat) : Prop := ∀ i j, i < j → j < n → rkAt rk p j < rkAt rk p i

theorem sat_asc {p : Array Nat} (hp : PermOf N p) (hN : 0 < N) (hr : ∀ i j, i < N → j < N → rk i = rk j → i = j) : ∀ (f n : Nat), 1 ≤ n → n + f ≤ N → Asc rk p n →
    Sat N rk (kas_asc p f n) (fun m => n ≤ m ∧ m ≤ n + f ∧ Asc rk p m ∧ (m = n + f ∨ rkAt rk p m < rkAt rk p (m - 1)))
  | 0, n, _, _, h => ⟨Nat.le_refl _, Nat.le_refl _, h, .inl rfl⟩
  | f + 1, n, h1, h2, h => by
    refine ⟨hp.lt hN _, hp.lt hN _, ?_⟩
    by_cases hlt : rkAt rk p n < rkAt rk p (n - 1)
    · have e : decide (rk (p.getD n 0) < rk (p.getD (n - 1) 0)) = true := decide_eq_true hlt
      rw [e]
      exact ⟨Nat.le_refl _, by omega, h, .inr hlt⟩
    · have e : decide (rk (p.getD n 0) < rk (p.getD (n - 1) 0)) = false := decide_eq_false hlt
      rw [e]
      have hne := rkAt_ne hp hN hr (i := n) (j := n - 1) (by omega) (by omega) (by omega)
      have h' : Asc rk p (n + 1) := fun i j hij hj => by
        by_cases hjn : j < n
        · exact h i j hij hjn
        · have : j = n := by omega
          subst this
          by_cases hi : i = j - 1
          · subst hi; omega
          · have := h i (j - 1) (by omega) (by omega); omega
      exact (sat_asc hp hN hr f (n + 1) (by omega) (by omega) h').mono fun m hm => ⟨by omega, by omega, hm.2.2.1, hm.2.2.2.imp (fun e => by omega) id⟩

theorem sat_desc {p : Array Nat} (hp : PermOf N p) (hN : 0 < N) (hr : ∀ i j, i < N → j < N → rk i = rk j → i = j) : ∀ (f n : Nat), 1 ≤ n → n + f ≤ N → Desc rk p n →
    Sat N rk (kas_desc f p n 0) (fun r => r.1 = p ∧ r.2.2 = 0 ∧ n ≤ r.2.1 ∧ r.2.1 ≤ n + f ∧ Desc rk p r.2.1)
  | 0, n, _, _, h => ⟨rfl, rfl, Nat.le_refl _, Nat.le_refl _, h⟩
  | f + 1, n, h1, h2, h => by
    refine ⟨hp.lt hN _, hp.lt hN _, ?_⟩
    by_cases hlt : rkAt rk p n < rkAt rk p (n - 1)
    · have e : decide (rk (p.getD n 0) < rk (p.getD (n - 1) 0)) = true := decide_eq_true hlt
      rw [e]
      simp only [if_true, if_neg (show ¬ (0 > 0) by decide)]
      have h' : Desc rk p (n + 1) := fun i j hij hj => by
        by_cases hjn : j < n
        · exact h i j hij hjn
        · have : j = n := by omega
          subst this
          by_cases hi : i = j - 1
          · subst hi; omega
          · have := h i (j - 1) (by omega) (by omega); omega
      exact (sat_desc hp hN hr f (n + 1) (by omega) (by omega) h').mono fun r hm => ⟨hm.1, hm.2.1, by omega, by omega, hm.2.2.2.2⟩
    · have e : decide (rk (p.getD n 0) < rk (p.getD (n - 1) 0)) = false := decide_eq_false hlt
      rw [e]
      simp only [Bool.false_eq_true, if_false]
      have hne := rkAt_ne hp hN hr (i := n) (j := n - 1) (by omega) (by omega) (by omega)
      refine ⟨hp.lt hN _, hp.lt hN _, ?_⟩
      have e2 : decide (rk (p.getD (n - 1) 0) < rk (p.getD n 0)) = true := decide_eq_true (by show rkAt rk p (n - 1) < rkAt rk p n; omega)
      rw [e2]
      exact ⟨rfl, rfl, Nat.le_refl _, by show n ≤ n + (f + 1); omega, h⟩

theorem permOf_rev {p : Array Nat} (hp : PermOf N p) (i j : Nat) : PermOf N (kas_rev p i j) :=
  (Array.perm_iff_toList_perm.mp (mirror_perm p i j _)).trans hp
theorem rkAt_rev {p : Array Nat} {n : Nat} (hn : n ≤ p.size) (k : Nat) : rkAt rk (kas_rev p 0 n) k = if k < n then rkAt rk p (n - 1 - k) else rkAt rk p k := by
  have e := getElem?_mirror_all (xs := p) (i := 0) (j := n) hn k
  have q : ∀ (xs : Array Nat) i, xs.getD i 0 = (xs[i]?).getD 0 := fun xs i => by simp [Array.getD_eq_getD_getElem?]
  unfold rkAt kas_rev
  rw [q, q, q, e]
  simp only [Nat.zero_le, true_and, Nat.zero_add]
  split <;> rfl
theorem asc_rev {p : Array Nat} {n : Nat} (hn : n ≤ p.size) (h : Desc rk p n) : Asc rk (kas_rev p 0 n) n := fun i j hij hj => by
  rw [rkAt_rev hn, rkAt_rev hn, if_pos (by omega), if_pos hj]
  exact h _ _ (by omega) (by omega)
theorem sat_tail3 {p : Array Nat} (hp : PermOf N p) (hN : 0 < N) (hr : ∀ i j, i < N → j < N → rk i = rk j → i = j) {n : Nat} (h1 : 1 ≤ n) (hn : n ≤ N) (h : Desc rk p n) :
    Sat N rk (kas_tail3 n N p) (fun r => PermOf N r.2 ∧ 1 ≤ r.1 ∧ r.1 ≤ N ∧ Asc rk r.2 r.1) := by
  unfold kas_tail3
  refine Sat.bind ?_
  exact (sat_asc (permOf_rev hp 0 n) hN hr (N - n) n h1 (by omega) (asc_rev (by rw [hp.size]; exact hn) h)).mono fun m hm => ⟨permOf_rev hp 0 n, by omega, by omega, hm.2.2.1⟩
theorem sat_count (hN : 1 ≤ N) (hr : ∀ i j, i < N → j < N → rk i = rk j → i = j) {p : Array Nat} (hp : PermOf N p) :
    Sat N rk (kas_count N p) (fun r => PermOf N r.2 ∧ 1 ≤ r.1 ∧ r.1 ≤ N ∧ Asc rk r.2 r.1) := by
  unfold kas_count
  refine Sat.bind ((sat_asc hp hN hr (N - 1) 1 (Nat.le_refl _) (by omega) (fun i j a b => by omega)).mono fun n hn => ?_)
  obtain ⟨h1, h2, h3, h4⟩ := hn
  by_cases e1 : (n == N) = true
  · rw [if_pos e1]
    exact ⟨hp, h1, by omega, h3⟩
  · rw [if_neg e1]
    have hne : n ≠ N := by simpa using e1
    by_cases e2 : n > 1
    · rw [if_pos e2]
      refine ⟨hp.lt hN _, hp.lt hN _, ?_⟩
      have := h3 0 (n - 1) (by omega) (by omega)
      have e : decide (rk (p.getD 0 0) < rk (p.getD (n - 1) 0)) = true := decide_eq_true this
      rw [e]
      exact ⟨hp, h1, by omega, h3⟩
    · rw [if_neg e2]
      have hn1 : n = 1 := by omega
      subst hn1
      have hlt : rkAt rk p 1 < rkAt rk p 0 := h4.resolve_left (by omega)
      unfold kas_descPart
      have hd : Desc rk p 2 := fun i j hij hj => by
        have : i = 0 ∧ j = 1 := by omega
        rw [this.1, this.2]; exact hlt
      refine Sat.bind ((sat_desc hp hN hr (N - (1 + 1)) (1 + 1) (by omega) (by omega) hd).mono fun r hr' => ?_)
      obtain ⟨q1, q2, q3, q4, q5⟩ := hr'
      rw [q2, if_neg (by decide), q1]
      exact sat_tail3 hp hN hr (by omega) (by omega) q5
theorem sat_place {p : Array Nat} (hp : PermOf N p) (hN : 0 < N) (hr : ∀ i j, i < N → j < N → rk i = rk j → i = j) {k : Nat} (hk : k < N) (hs : Asc rk p k) : ∀ (f l r : Nat), l ≤ r → r ≤ k → r - l ≤ f → (∀ i, i < l → rkAt rk p i < rkAt rk p k) → (∀ i, r ≤ i → i < k → rkAt rk p k < rkAt rk p i) →
    Sat N rk (kas_place p k f l r) (fun m => m ≤ k ∧ (∀ i, i < m → rkAt rk p i < rkAt rk p k) ∧ ∀ i, m ≤ i → i < k → rkAt rk p k < rkAt rk p i)
  | 0, l, r, h1, h2, h3, h4, h5 => ⟨by omega, h4, fun i a b => h5 i (by omega) b⟩
  | f + 1, l, r, h1, h2, h3, h4, h5 => by
    unfold kas_place
    by_cases hge : l ≥ r
    · rw [if_pos hge]
      exact ⟨by omega, h4, fun i a b => h5 i (by omega) b⟩
    · rw [if_neg hge]
      refine ⟨hp.lt hN _, hp.lt hN _, ?_⟩
      by_cases hlt : rkAt rk p k < rkAt rk p ((l + r) / 2)
      · have e : decide (rk (p.getD k 0) < rk (p.getD ((l + r) / 2) 0)) = true := decide_eq_true hlt
        rw [e]
        refine sat_place hp hN hr hk hs f l _ (by omega) (by omega) (by omega) h4 fun i a b => ?_
        by_cases hi : i = (l + r) / 2
        · subst hi; exact hlt
        · have := hs ((l + r) / 2) i (by omega) b; omega
      · have e : decide (rk (p.getD k 0) < rk (p.getD ((l + r) / 2) 0)) = false := decide_eq_false hlt
        rw [e]
        have hne := rkAt_ne hp hN hr (i := k) (j := (l + r) / 2) hk (by omega) (by omega)
        refine sat_place hp hN hr hk hs f _ r (by omega) (by omega) (by omega) (fun i a => ?_) h5
        by_cases hi : i = (l + r) / 2
        · subst hi; omega
        · have := hs i ((l + r) / 2) (by omega) (by omega); omega
theorem rkAt_bubble {p : Array Nat} {k d : Nat} (hk : k < p.size) (hd : d ≤ k) (i : Nat) : rkAt rk (bubble p k d) i = if i = k - d then rkAt rk p k else if k - d < i ∧ i ≤ k then rkAt rk p (i - 1) else rkAt rk p i := by
  have e := getElem?_bubble hk d hd i
  have q : ∀ (xs : Array Nat) i, xs.getD i 0 = (xs[i]?).getD 0 := fun xs i => by simp [Array.getD_eq_getD_getElem?]
  unfold rkAt
  rw [q, q, q, q, e]
  split
  · rfl
  · split <;> rfl
theorem sat_bin (hN : 0 < N) (hr : ∀ i j, i < N → j < N → rk i = rk j → i = j) : ∀ (f k : Nat) (p : Array Nat), PermOf N p → 1 ≤ k → k + f = N → Asc rk p k → Sat N rk (kas_bin f p k) (fun q => PermOf N q ∧ Asc rk q N)
  | 0, k, p, hp, _, h2, h3 => ⟨hp, by rw [← h2]; exact h3⟩
  | f + 1, k, p, hp, h1, h2, h3 => by
    unfold kas_bin
    refine Sat.bind ((sat_place hp hN hr (by omega) h3 k 0 k (Nat.zero_le _) (Nat.le_refl _) (by omega) (fun i a => absurd a (Nat.not_lt_zero _)) (fun i a b => by omega)).mono fun m hm => ?_)
    obtain ⟨q1, q2, q3⟩ := hm
    have hks : k < p.size := by rw [hp.size]; omega
    refine sat_bin hN hr f (k + 1) _ ((Array.perm_iff_toList_perm.mp (bubble_perm p k (k - m))).trans hp) (by omega) (by omega) fun i j hij hj => ?_
    rw [rkAt_bubble hks (by omega), rkAt_bubble hks (by omega), show k - (k - m) = m by omega]
    (repeat' split)
    all_goals first
      | (exfalso; omega)
      | exact q2 _ (by omega)
      | exact q3 _ (by omega) (by omega)
      | exact h3 _ _ (by omega) (by omega)
theorem sat_sort (hN : 1 ≤ N) (hr : ∀ i j, i < N → j < N → rk i = rk j → i = j) : Sat N rk (kas_sort N) (fun q => PermOf N q ∧ Asc rk q N) := by
  unfold kas_sort
  have h0 : PermOf N (List.toArray (List.range N)) := by unfold PermOf; simp
  refine Sat.bind ((sat_count hN hr h0).mono fun r hr' => ?_)
  obtain ⟨q1, q2, q3, q4⟩ := hr'
  by_cases h : r.1 < N
  · rw [if_pos h]
    have : max r.1 1 = r.1 := by omega
    rw [this]
    exact sat_bin hN hr _ _ _ q1 q2 (by omega) q4
  · rw [if_neg h]
    have : r.1 = N := by omega
    rw [this] at q4
    exact ⟨q1, q4⟩
end
end Mine
end PartSortP
section PartSortW
set_option maxRecDepth 100000
set_option maxHeartbeats 4000000
namespace Mine
section
variable {prog : Program} {w : World} {A : Around} {E : Value → Shared → Prop} {s : Shared} {h₀ : Heap} {L : Addr} {m : Str → Option Value}
theorem tri_lt {x y : Addr} {p c p' c' : Nat} {f f' : Bool} {t1 t2 u1 u2 : Tok} {n k : Nat} {Q : Bool → Shared → Prop}
    (hx : s.heap.get? x = some (triObj p c f t1 t2 n)) (hy : s.heap.get? y = some (triObj p' c' f' u1 u2 k)) (hf : p = p' → c = c' → f = f')
    (h : Q (decide (p < p' ∨ (p = p' ∧ c < c'))) s) : wpAny (model prog w) A (keyLt' (tuples' true) (.ref x) (.ref y)) Q E s := by
  refine kat_lt hx rfl hy rfl ?_
  show KatLex prog w A true false Q [(.int p t1, .int p' u1), (.int c t2, .int c' u2), (.bool f, .bool f')] 0 s
  refine kat_cons (wpAny_eqBool_int ?_)
  by_cases e1 : p = p'
  · subst e1
    rw [beq_self_eq_true]
    refine kat_yes (kat_cons (wpAny_eqBool_int ?_))
    by_cases e2 : c = c'
    · subst e2
      rw [beq_self_eq_true]
      refine kat_yes (kat_cons (PySem.SeqAt.EqAt.bool_bool f f' prog w _ _ ?_))
      rw [hf rfl rfl, beq_self_eq_true]
      refine kat_yes (kat_nil ?_)
      rw [show decide (p < p ∨ (p = p ∧ c < c)) = false from decide_eq_false (by omega)] at h
      exact h
    · rw [beq_false_of_ne (by omega)]
      refine kat_no (kat_one _ _ (wpAny_lt_int ?_))
      show Q (decide ((c : Int) < (c' : Int))) s
      have e : decide ((c : Int) < (c' : Int)) = decide (p < p ∨ (p = p ∧ c < c')) := by rw [decide_eq_decide]; omega
      rw [e]; exact h
  · rw [beq_false_of_ne (by omega)]
    refine kat_no (oneLt_int ?_)
    have e : decide ((p : Int) < (p' : Int)) = decide (p < p' ∨ (p = p' ∧ c < c')) := by rw [decide_eq_decide]; omega
    rw [e]; exact h
theorem TriedOK.get {ps : List Nat} {fit : Nat → Bool} {tl : List (Addr × Obj)} : ∀ {us : List Addr} {cs : List Nat}, TriedOK ps fit tl us cs → ∀ i, i < cs.length → ∃ t1 t2 n, (us.getD i 0, triObj (price ps (cs.getD i 0)) (cs.getD i 0 : Nat) (fit (cs.getD i 0)) t1 t2 n) ∈ tl
  | [], [], _, i, h => absurd h (Nat.not_lt_zero _)
  | _ :: _, _ :: _, ⟨h, _⟩, 0, _ => h
  | _ :: _, _ :: _, ⟨_, r⟩, i + 1, h => r.get i (Nat.lt_of_succ_lt_succ h)
theorem TriedOK.pick {ps : List Nat} {fit : Nat → Bool} {tl : List (Addr × Obj)} {us : List Addr} {cs : List Nat} (h : TriedOK ps fit tl us cs) : ∀ (p : List Nat), (∀ i ∈ p, i < cs.length) → TriedOK ps fit tl (p.map fun i => us.getD i 0) (p.map fun i => cs.getD i 0)
  | [], _ => trivial
  | i :: p, hp => ⟨h.get i (hp i (.head _)), h.pick p fun j hj => hp j (.tail _ hj)⟩
theorem refs_getD (us : List Addr) (i : Nat) (h : i < us.length) : (us.map Value.ref).getD i Value.none = .ref (us.getD i 0) := by
  simp [List.getD_eq_getElem?_getD, h]
theorem tri_kat {h : Heap} {ps : List Nat} {fit : Nat → Bool} {tl : List (Addr × Obj)} (ht : ∀ p ∈ tl, h.get? p.1 = some p.2) : ∀ {us : List Addr} {cs : List Nat}, TriedOK ps fit tl us cs → ∃ fs, fs.length = cs.length ∧ KatTups h (us.map Value.ref) fs ∧ ∀ v ∈ fs, ∃ k t, v = Value.int k t
  | [], [], _ => ⟨[], rfl, KatTups.nil, fun _ h => nomatch h⟩
  | u :: us, c :: cs, ⟨⟨t1, t2, n, hm⟩, r⟩ => by
    obtain ⟨fs, h1, h2, h3⟩ := tri_kat ht r
    refine ⟨.int (price ps c : Nat) t1 :: fs, by simp [h1], KatTups.cons (ht _ hm) rfl rfl rfl h2, fun v hv => ?_⟩
    rcases List.mem_cons.mp hv with rfl | hv
    · exact ⟨_, _, rfl⟩
    · exact h3 v hv
/-- sorted(due) -/
theorem sorted_tri {ps : List Nat} {fit : Nat → Bool} {tl news : List (Addr × Obj)} {dus : List Addr} {l : Addr} {nd : Nat} {Q : Value → Shared → Prop}
    (F : Fr h₀ L s.heap m) (N : News h₀ L s.heap news) (hm : (l, listOf (refsOf dus) nd) ∈ news) (hT : TriedOK ps fit tl dus (List.range 16)) (hs : ∀ p ∈ tl, p ∈ news)
    (h : ∀ D n h' us cs, Fr h₀ L h' m → News h₀ L h' ((D, listOf (refsOf us) n) :: news) → (∀ q ∈ news, q.1 < D) → TriedOK ps fit tl us cs → cs.Pairwise (klt ps) → cs.Perm (List.range 16) → Q (.ref D) { s with heap := h' }) :
    wpAny (model prog w) A (call (.builtin "sorted") [.ref l]) Q E s := by
  have hl : dus.length = 16 := by rw [hT.length]; simp
  have hvl : (dus.map Value.ref).length = 16 := by simp [hl]
  refine kat_sorted (vs := dus.map Value.ref) F N ⟨_, (N _ hm).1, rfl, nd, rfl⟩ (by omega) (by omega) fun D e1 h' F1 N1 hlt => ?_
  have htl : ∀ p ∈ tl, h'.get? p.1 = some p.2 := fun p hp => (N1 p (.tail _ (hs p hp))).1
  obtain ⟨fs, hf1, hf2, hf3⟩ := tri_kat htl hT
  refine kat_kind (T := .type "int") hf2 (by rw [hf1]; decide) (fun v hv => ?_) rfl ?_
  · obtain ⟨k, t, rfl⟩ := hf3 v hv
    exact Looks.of_pure rfl
  · rw [hvl]
    let rk : Nat → Nat := fun i => price ps i * 16 + i
    have hr : ∀ i j, i < 16 → j < 16 → rk i = rk j → i = j := fun i j hi hj e => by
      have e' : price ps i * 16 + i = price ps j * 16 + j := e
      omega
    have hrk : ∀ i j, i < 16 → j < 16 → (rk i < rk j ↔ klt ps i j) := fun i j hi hj => by
      show price ps i * 16 + i < price ps j * 16 + j ↔ _
      unfold klt; omega
    have hrg : ∀ i, i < 16 → (List.range 16).getD i 0 = i := by decide
    refine Sat.wp (N := 16) (rk := rk) ?_ ?_ (sat_sort (by decide) hr)
    · intro i j C hi hj hC
      unfold kas_ask
      rw [refs_getD _ _ (by omega), refs_getD _ _ (by omega)]
      obtain ⟨t1, t2, n, hi1⟩ := hT.get i (by simpa using hi)
      obtain ⟨u1, u2, k, hj1⟩ := hT.get j (by simpa using hj)
      rw [hrg i hi] at hi1
      rw [hrg j hj] at hj1
      refine tri_lt (htl _ hi1) (htl _ hj1) (fun _ e => by rw [e]) ?_
      have e : decide (price ps i < price ps j ∨ price ps i = price ps j ∧ i < j) = decide (rk i < rk j) := by
        rw [decide_eq_decide, hrk i j hi hj]; rfl
      rw [e]; exact hC
    · rintro p ⟨hp, ha⟩
      have hmem : ∀ i ∈ p.toList, i < 16 := fun i hi => List.mem_range.mp (hp.mem_iff.mp hi)
      refine KasFin.intro F1 N1 (.head fun q hq => Nat.ne_of_lt (hlt q hq)) fun h2 c2 F2 N2 => ?_
      have e : (p.toList.map fun i => (dus.map Value.ref).getD i Value.none) = (p.toList.map fun i => dus.getD i 0).map Value.ref := by
        rw [List.map_map]
        exact List.map_congr_left fun i hi => refs_getD _ _ (by rw [hl]; exact hmem i hi)
      rw [e] at N2
      have hcs : (p.toList.map fun i => (List.range 16).getD i 0) = p.toList := by
        have := List.map_congr_left (l := p.toList) (f := fun i => (List.range 16).getD i 0) (g := id) fun i hi => hrg i (hmem i hi)
        rw [this, List.map_id]
      have hpk := hT.pick p.toList (by simpa using hmem)
      rw [hcs] at hpk
      refine h D c2 h2 _ _ F2 N2 hlt hpk ?_ hp
      have hsz := hp.size
      rw [List.pairwise_iff_getElem]
      intro i j hi hj hij
      have h1 := ha i j hij (by simpa [hsz] using hj)
      have hi' : i < p.size := by simpa using hi
      have hj' : j < p.size := by simpa using hj
      have ei : p.getD i 0 = p.toList[i] := by simp [Array.getD, hi']
      have ej : p.getD j 0 = p.toList[j] := by simp [Array.getD, hj']
      unfold rkAt at h1
      rw [ei, ej] at h1
      exact (hrk _ _ (hmem _ (List.getElem_mem hi)) (hmem _ (List.getElem_mem hj))).mp h1
theorem klt_asymm {ps : List Nat} {a b : Nat} (h1 : klt ps a b) (h2 : klt ps b a) : False := by unfold klt at *; omega
theorem sorted_unique {ps : List Nat} : ∀ {cs ts : List Nat}, cs.Pairwise (klt ps) → ts.Pairwise (klt ps) → cs.Perm ts → cs = ts
  | [], ts, _, _, hp => by rw [hp.nil_eq]
  | c :: cs, [], _, _, hp => absurd hp.symm.nil_eq (by simp)
  | c :: cs, t :: ts, h1, h2, hp => by
    rw [List.pairwise_cons] at h1 h2
    have e : c = t := by
      have hc : c ∈ t :: ts := hp.mem_iff.mp (.head _)
      have ht : t ∈ c :: cs := hp.mem_iff.mpr (.head _)
      rcases List.mem_cons.mp hc with e | hc
      · exact e
      · rcases List.mem_cons.mp ht with e | ht
        · exact e.symm
        · exact (klt_asymm (h1.1 t ht) (h2.1 c hc)).elim
    subst e
    rw [sorted_unique h1.2 h2.2 hp.cons_inv]
/-- == of the two lists -/
theorem eq_tri {ps : List Nat} {fit fit' : Nat → Bool} {tl tl' news : List (Addr × Obj)} {us us' : List Addr} {cs : List Nat} {l b : Addr} {n k : Nat} {Q : Value → Shared → Prop}
    (N : News h₀ L s.heap news) (hl : (l, listOf (refsOf us) n) ∈ news) (hb : (b, listOf (refsOf us') k) ∈ news) (hT : TriedOK ps fit tl us cs) (hT' : TriedOK ps fit' tl' us' cs)
    (hs : ∀ p ∈ tl, p ∈ news) (hs' : ∀ p ∈ tl', p ∈ news) (hfit : ∀ c ∈ cs, fit c = fit' c) (hu : A.units + 1 < cLine) (h : Q (.bool true) s) : wpAny (model prog w) A (compareOp .Eq (.ref l) (.ref b)) Q E s := by
  refine cmp_ofEq ?_
  have h1 : s.heap.IsList l (refsOf us) := ⟨_, (N _ hl).1, rfl, n, rfl⟩
  have h2 : s.heap.IsList b (refsOf us') := ⟨_, (N _ hb).1, rfl, k, rfl⟩
  have l1 := hT.length
  have l2 := hT'.length
  refine PySem.SeqAt.RcAt.lists (e := fun _ => true) h1 h2 (by simp [l1, l2]) (by omega) (fun j g1 g2 => ?_) prog w E Q ?_
  · have gj : j < cs.length := by simpa [l1] using g1
    obtain ⟨t1, t2, n1, m1⟩ := hT.get j gj
    obtain ⟨u1, u2, n2, m2⟩ := hT'.get j gj
    have e1 : (refsOf us)[j] = .ref (us.getD j 0) := by simp [List.getD_eq_getElem?_getD, (by omega : j < us.length)]
    have e2 : (refsOf us')[j] = .ref (us'.getD j 0) := by simp [List.getD_eq_getElem?_getD, (by omega : j < us'.length)]
    rw [e1, e2]
    by_cases hne : us.getD j 0 = us'.getD j 0
    · rw [hne]; exact PySem.SeqAt.EqAt.same _
    · refine PySem.SeqAt.EqAt.of_refs hne ?_
      have hfc : fit (cs.getD j 0) = fit' (cs.getD j 0) := hfit _ (by simp [List.getD_eq_getElem?_getD, gj])
      have T := PySem.SeqAt.RcAt.tuples (A := A.in1) (e := fun _ => true) (l := us.getD j 0) (b := us'.getD j 0) ⟨_, (N _ (hs _ m1)).1, rfl, _, rfl⟩ ⟨_, (N _ (hs' _ m2)).1, rfl, _, rfl⟩ (by rw [Around.in1_units]; exact hu) (fun i q1 q2 => ?_)
      · exact T
      · have q3 : i < 3 := q1
        have : i = 0 ∨ i = 1 ∨ i = 2 := by omega
        rcases this with rfl | rfl | rfl
        · have := PySem.SeqAt.EqAt.int_int (A := A.in1.in1) (s := s) (price ps (cs.getD j 0) : Nat) t1 (price ps (cs.getD j 0) : Nat) u1
          rw [beq_self_eq_true] at this
          exact this
        · have := PySem.SeqAt.EqAt.int_int (A := A.in1.in1) (s := s) (cs.getD j 0 : Nat) t2 (cs.getD j 0 : Nat) u2
          rw [beq_self_eq_true] at this
          exact this
        · have := PySem.SeqAt.EqAt.bool_bool (A := A.in1.in1) (s := s) (fit (cs.getD j 0)) (fit' (cs.getD j 0))
          rw [hfc, beq_self_eq_true] at this
          show PySem.SeqAt.EqAt A.in1.in1 s (Value.bool (fit (cs.getD j 0))) (Value.bool (fit' (cs.getD j 0))) true
          rw [hfc]
          exact this
  · rw [List.all_eq_true.mpr fun _ _ => rfl]
    exact h
end
end Mine
end PartSortW
section PartCrcP
namespace Mine
/-- the Horner number of the bits b 0, b 1, .. (b 0 the highest) -/
def hor (b : Nat → Nat) : Nat → Nat
  | 0 => 0
  | k + 1 => 2 * hor b k + b k
theorem dbl_xor {x y a b : Nat} (ha : a < 2) (hb : b < 2) : (2 * x + a) ^^^ (2 * y + b) = 2 * (x ^^^ y) + (a ^^^ b) := by
  have h1 : ((2 * x + a) ^^^ (2 * y + b)) / 2 = (2 * x + a) / 2 ^^^ (2 * y + b) / 2 := Nat.xor_div_two
  have h2 : ((2 * x + a) ^^^ (2 * y + b)) % 2 = (2 * x + a) % 2 ^^^ (2 * y + b) % 2 := by
    have := @Nat.xor_mod_two_pow (2 * x + a) (2 * y + b) 1
    simpa using this
  rw [show (2 * x + a) / 2 = x by omega, show (2 * y + b) / 2 = y by omega] at h1
  rw [show (2 * x + a) % 2 = a by omega, show (2 * y + b) % 2 = b by omega] at h2
  have : a ^^^ b < 2 := by
    have : a = 0 ∨ a = 1 := by omega
    have : b = 0 ∨ b = 1 := by omega
    rcases ‹a = 0 ∨ a = 1› with h | h <;> rcases ‹b = 0 ∨ b = 1› with k | k <;> rw [h, k] <;> decide
  omega
theorem hor_xor {b c : Nat → Nat} : ∀ k, (∀ j, j < k → b j < 2) → (∀ j, j < k → c j < 2) → hor (fun j => b j ^^^ c j) k = hor b k ^^^ hor c k
  | 0, _, _ => (Nat.zero_xor 0).symm
  | k + 1, hb, hc => by
    show 2 * hor (fun j => b j ^^^ c j) k + (b k ^^^ c k) = (2 * hor b k + b k) ^^^ (2 * hor c k + c k)
    rw [dbl_xor (hb k (by omega)) (hc k (by omega)), hor_xor k (fun j h => hb j (by omega)) (fun j h => hc j (by omega))]
theorem hor_congr {b c : Nat → Nat} : ∀ k, (∀ j, j < k → b j = c j) → hor b k = hor c k
  | 0, _ => rfl
  | k + 1, h => by
    show 2 * hor b k + b k = 2 * hor c k + c k
    rw [hor_congr k fun j hj => h j (by omega), h k (by omega)]
theorem hor_lt {b : Nat → Nat} : ∀ k, (∀ j, j < k → b j < 2) → hor b k < 2 ^ k
  | 0, _ => Nat.one_pos
  | k + 1, h => by
    have h1 := hor_lt k fun j hj => h j (by omega)
    have h2 := h k (by omega)
    show 2 * hor b k + b k < 2 ^ (k + 1)
    rw [Nat.pow_succ]; omega
theorem bit_xor (a b k : Nat) : (a ^^^ b) / 2 ^ k % 2 = (a / 2 ^ k % 2) ^^^ (b / 2 ^ k % 2) := by
  rw [Nat.xor_div_two_pow]
  have := @Nat.xor_mod_two_pow (a / 2 ^ k) (b / 2 ^ k) 1
  simpa using this
theorem one_xor {a : Nat} (h : a < 2) : 1 - a = 1 ^^^ a := by
  have : a = 0 ∨ a = 1 := by omega
  rcases this with h | h <;> rw [h] <;> decide
abbrev xl (ns ms : List Nat) : List Nat := List.zipWith (· ^^^ ·) ns ms
theorem xl_length {ns ms : List Nat} {k : Nat} (h1 : ns.length = k) (h2 : ms.length = k) : (xl ns ms).length = k := by simp [h1, h2]
theorem xl_getD {ns ms : List Nat} (h : ns.length = ms.length) (k : Nat) : (xl ns ms).getD k 0 = ns.getD k 0 ^^^ ms.getD k 0 := by
  simp only [List.getD_eq_getElem?_getD, List.getElem?_zipWith]
  by_cases hk : k < ns.length
  · have h2 : k < ms.length := by omega
    simp [hk, h2]
  · have h2 : ¬ k < ms.length := by omega
    simp [Nat.le_of_not_lt hk, Nat.le_of_not_lt h2]
theorem bitAt_xl {ns ms : List Nat} (h : ns.length = ms.length) (p : Nat) : bitAt (xl ns ms) p = bitAt ns p ^^^ bitAt ms p := by
  unfold bitAt
  split
  · rw [xl_getD h, bit_xor]
  · rfl
/-- the division's turn, as a linear map -/
def dv (x : Nat) : Nat → Nat
  | 0 => x
  | k + 1 => dv x k ^^^ (4374732215 * 2 ^ (39 - k) * (dv x k / 2 ^ (39 - k + 32) % 2))
theorem mul_bit_xor (P a b : Nat) (ha : a < 2) (hb : b < 2) : P * (a ^^^ b) = P * a ^^^ P * b := by
  have : a = 0 ∨ a = 1 := by omega
  have : b = 0 ∨ b = 1 := by omega
  rcases ‹a = 0 ∨ a = 1› with h | h <;> rcases ‹b = 0 ∨ b = 1› with k | k <;> rw [h, k] <;> simp
theorem dv_xor (x y : Nat) : ∀ k, dv (x ^^^ y) k = dv x k ^^^ dv y k
  | 0 => rfl
  | k + 1 => by
    show dv (x ^^^ y) k ^^^ (4374732215 * 2 ^ (39 - k) * (dv (x ^^^ y) k / 2 ^ (39 - k + 32) % 2)) = (dv x k ^^^ (4374732215 * 2 ^ (39 - k) * (dv x k / 2 ^ (39 - k + 32) % 2))) ^^^ (dv y k ^^^ (4374732215 * 2 ^ (39 - k) * (dv y k / 2 ^ (39 - k + 32) % 2)))
    rw [dv_xor x y k, bit_xor, mul_bit_xor _ _ _ (by omega) (by omega)]
    ac_rfl
theorem divTo_dv {x : Nat} (hx : x < 2 ^ 72) : ∀ k, k ≤ 40 → divTo x k = dv x k ∧ dv x k < 2 ^ (72 - k)
  | 0, _ => ⟨rfl, hx⟩
  | k + 1, hk => by
    obtain ⟨e, hl⟩ := divTo_dv hx k (by omega)
    have hp : 2 ^ (72 - k) = 2 * 2 ^ (39 - k + 32) := by rw [show 72 - k = 39 - k + 32 + 1 by omega, Nat.pow_succ]; omega
    have hq : 0 < 2 ^ (39 - k + 32) := Nat.pow_pos (by decide)
    rw [hp] at hl
    have hlt : dv x k / 2 ^ (39 - k + 32) < 2 := by rw [Nat.div_lt_iff_lt_mul hq]; omega
    have he : 72 - (k + 1) = 39 - k + 32 := by omega
    rw [he]
    by_cases h1 : dv x k / 2 ^ (39 - k + 32) = 1
    · have e2 : dv x (k + 1) = dv x k ^^^ (4374732215 * 2 ^ (39 - k)) := by
        show dv x k ^^^ (4374732215 * 2 ^ (39 - k) * (dv x k / 2 ^ (39 - k + 32) % 2)) = _
        rw [h1]; simp
      refine ⟨by rw [divTo, e, if_pos h1, e2], ?_⟩
      rw [e2]
      have h3 : (4374732215 * 2 ^ (39 - k)) / 2 ^ (39 - k + 32) = 1 := by
        rw [Nat.pow_add, Nat.mul_comm, ← Nat.div_div_eq_div_mul, Nat.mul_comm, Nat.mul_div_cancel _ (Nat.pow_pos (by decide))]
      have h4 : (dv x k ^^^ (4374732215 * 2 ^ (39 - k))) / 2 ^ (39 - k + 32) = 0 := by rw [Nat.xor_div_two_pow, h1, h3]; rfl
      exact (Nat.div_eq_zero_iff_lt hq).mp h4
    · have h0 : dv x k / 2 ^ (39 - k + 32) = 0 := (show ∀ q : Nat, q < 2 → q ≠ 1 → q = 0 by omega) _ hlt h1
      have e2 : dv x (k + 1) = dv x k := by
        show dv x k ^^^ (4374732215 * 2 ^ (39 - k) * (dv x k / 2 ^ (39 - k + 32) % 2)) = _
        rw [h0]; simp
      refine ⟨by rw [divTo, e, if_neg h1, e2], ?_⟩
      rw [e2]
      exact (Nat.div_eq_zero_iff_lt hq).mp h0
/-- whole, as a linear map -/
theorem wholeTo_hor (ns : List Nat) (k : Nat) : wholeTo ns k = hor (fun j => if j < 32 then 1 else 0) k ^^^ hor (bitAt ns) k := by
  have e : ∀ k, wholeTo ns k = hor (fun j => (if j < 32 then 1 else 0) ^^^ bitAt ns j) k := by
    intro k
    induction k with
    | zero => rfl
    | succ k ih =>
      show 2 * wholeTo ns k + (if k < 32 then 1 - bitAt ns k else bitAt ns k) = 2 * hor _ k + ((if k < 32 then 1 else 0) ^^^ bitAt ns k)
      rw [ih]
      split
      · rw [one_xor (bitAt_lt ns k)]
      · rw [Nat.zero_xor]
  rw [e, hor_xor]
  · intro j _; split <;> omega
  · intro j _; exact bitAt_lt ns j
def rv (d : Nat) : Nat := hor (fun k => d / 2 ^ k % 2) 32
theorem rv_xor (x y : Nat) : rv (x ^^^ y) = rv x ^^^ rv y := by
  unfold rv
  rw [← hor_xor 32 (fun j _ => Nat.mod_lt _ (by decide)) (fun j _ => Nat.mod_lt _ (by decide))]
  exact hor_congr 32 fun j _ => bit_xor x y j
theorem sum_hor (b : Nat → Nat) (B : Int → Int) (hB : ∀ k : Nat, B ((0 : Int) + (k : Int)) = ((b k : Nat) : Int)) : ∀ n, n ≤ 32 → (List.map (fun k' : Int => 2 ^ (31 - k').toNat * B k') (rangeKs 0 n)).sum = ((2 ^ (32 - n) * hor b n : Nat) : Int)
  | 0, _ => by simp [rangeKs, hor]
  | n + 1, hn => by
    have ih := sum_hor b B hB n (by omega)
    have e : rangeKs 0 (n + 1) = rangeKs 0 n ++ [(0 : Int) + (n : Int)] := by simp [rangeKs, List.range_succ]
    rw [e, List.map_append, List.sum_append, ih]
    simp only [List.map_cons, List.map_nil, List.sum_cons, List.sum_nil, Int.add_zero]
    rw [hB n, show ((31 : Int) - (0 + (n : Int))).toNat = 31 - n by omega, pow_nat, show 32 - n = 31 - n + 1 by omega, show 32 - (n + 1) = 31 - n by omega]
    show _ = ((2 ^ (31 - n) * (2 * hor b n + b n) : Nat) : Int)
    rw [Nat.pow_succ, Nat.mul_add, Nat.mul_assoc]
    simp only [Int.natCast_add, Int.natCast_mul]
theorem ckZ_rv (d : Nat) : ckZ d = ((rv d ^^^ 4294967295 : Nat) : Int) := by
  have h1 : ckZ d = ((hor (fun k => 1 - d / 2 ^ k % 2) 32 : Nat) : Int) := by
    have := sum_hor (fun k => 1 - d / 2 ^ k % 2) (fun k' => 1 - ((d : Int).fdiv (2 ^ k'.toNat)).fmod 2) (fun k => by
      rw [Int.zero_add, Int.toNat_natCast, flip_test]
      omega) 32 (Nat.le_refl _)
    rw [show 2 ^ (32 - 32) * hor (fun k => 1 - d / 2 ^ k % 2) 32 = hor (fun k => 1 - d / 2 ^ k % 2) 32 by simp] at this
    exact this
  have h2 : hor (fun k => 1 - d / 2 ^ k % 2) 32 = hor (fun _ => 1) 32 ^^^ rv d := by
    unfold rv
    rw [← hor_xor 32 (fun j _ => by decide) (fun j _ => Nat.mod_lt _ (by decide))]
    exact hor_congr 32 fun j _ => one_xor (Nat.mod_lt _ (by decide))
  rw [h1, h2, Nat.xor_comm, show hor (fun _ => 1) 32 = 4294967295 by decide]
end Mine
end PartCrcP
section PartCrcQ
namespace Mine
theorem stepN_xor (x y : Nat) : stepN (x ^^^ y) = stepN x ^^^ stepN y := by
  have e : ∀ x, stepN x = (x / 2) ^^^ (3988292384 * (x % 2)) := fun x => by
    unfold stepN
    have : x % 2 = 0 ∨ x % 2 = 1 := by omega
    rcases this with h | h <;> rw [h] <;> simp
  have h2 : (x ^^^ y) % 2 = x % 2 ^^^ y % 2 := by
    have := @Nat.xor_mod_two_pow x y 1
    simpa using this
  rw [e, e, e, Nat.xor_div_two, h2, mul_bit_xor _ _ _ (by omega) (by omega)]
  ac_rfl
theorem itN_xor (x y : Nat) : ∀ n, itN n (x ^^^ y) = itN n x ^^^ itN n y
  | 0 => rfl
  | n + 1 => by
    show stepN (itN n (x ^^^ y)) = stepN (itN n x) ^^^ stepN (itN n y)
    rw [itN_xor x y n, stepN_xor]
theorem fitStep_xor (c d n m : Nat) : fitStep (c ^^^ d) (n ^^^ m) = fitStep c n ^^^ fitStep d m := by
  unfold fitStep
  have h1 : (c ^^^ d) / 256 = c / 256 ^^^ d / 256 := @Nat.xor_div_two_pow c d 8
  have h2 : (c ^^^ d) % 256 = c % 256 ^^^ d % 256 := @Nat.xor_mod_two_pow c d 8
  rw [h1, h2, show c % 256 ^^^ d % 256 ^^^ (n ^^^ m) = (c % 256 ^^^ n) ^^^ (d % 256 ^^^ m) by ac_rfl, itN_xor]
  ac_rfl
theorem fold_xor : ∀ (ns ms : List Nat) (c d : Nat), ns.length = ms.length → (xl ns ms).foldl fitStep (c ^^^ d) = ns.foldl fitStep c ^^^ ms.foldl fitStep d
  | [], [], _, _, _ => rfl
  | n :: ns, m :: ms, c, d, h => by
    show (xl ns ms).foldl fitStep (fitStep (c ^^^ d) (n ^^^ m)) = ns.foldl fitStep (fitStep c n) ^^^ ms.foldl fitStep (fitStep d m)
    rw [fitStep_xor]
    exact fold_xor ns ms _ _ (by simpa using h)
/-- the two readings of a row, as linear maps -/
def G (ns : List Nat) : Nat := ns.foldl fitStep 0
def H (ns : List Nat) : Nat := rv (dv (hor (bitAt ns) 72) 40)
theorem G_xor {ns ms : List Nat} (h : ns.length = ms.length) : G (xl ns ms) = G ns ^^^ G ms := by
  have := fold_xor ns ms 0 0 h
  exact this
theorem H_xor {ns ms : List Nat} (h : ns.length = ms.length) : H (xl ns ms) = H ns ^^^ H ms := by
  unfold H
  rw [← rv_xor, ← dv_xor, ← hor_xor 72 (fun j _ => bitAt_lt ns j) (fun j _ => bitAt_lt ms j), hor_congr 72 fun j _ => bitAt_xl h j]
theorem basis {f g : Nat → Nat} (hf : ∀ x y, f (x ^^^ y) = f x ^^^ f y) (hg : ∀ x y, g (x ^^^ y) = g x ^^^ g y) : ∀ n, (∀ i, i < n → f (2 ^ i) = g (2 ^ i)) → ∀ x, x < 2 ^ n → f x = g x
  | 0, _, x, hx => by
    have : x = 0 := by simpa using hx
    subst this
    have h1 := hf 0 0
    have h2 := hg 0 0
    simp only [Nat.xor_self] at h1 h2
    rw [h1, h2]
  | n + 1, h, x, hx => by
    have ih := basis hf hg n fun i hi => h i (by omega)
    have hq : 0 < 2 ^ n := Nat.pow_pos (by decide)
    have hm : x % 2 ^ n < 2 ^ n := Nat.mod_lt _ hq
    by_cases hc : x < 2 ^ n
    · exact ih x hc
    · have hx' : x < 2 ^ n + 2 ^ n := by rw [Nat.pow_succ] at hx; omega
      have e : x = (x - 2 ^ n) ^^^ 2 ^ n := by
        have h3 := nat_xor_and (x - 2 ^ n) (2 ^ n)
        have h4 : (x - 2 ^ n) &&& 2 ^ n = 0 := by
          refine Nat.eq_of_testBit_eq fun i => ?_
          rw [Nat.testBit_and, Nat.testBit_two_pow, Nat.zero_testBit]
          by_cases hi : n = i
          · subst hi
            rw [Nat.testBit_lt_two_pow (by omega)]; rfl
          · simp [hi]
        omega
      rw [e, hf, hg, ih _ (by omega), h n (by omega)]
theorem xl_self_left {a b : Nat} : a ^^^ b = a ^^^ b := rfl
theorem five (a b c d e : Nat) : [a, b, c, d, e] = xl [a, 0, 0, 0, 0] (xl [0, b, 0, 0, 0] (xl [0, 0, c, 0, 0] (xl [0, 0, 0, d, 0] [0, 0, 0, 0, e]))) := by simp [xl]
theorem GH_five {K : List Nat → Nat} (hK : ∀ {ns ms : List Nat}, ns.length = ms.length → K (xl ns ms) = K ns ^^^ K ms) (a b c d e : Nat) : K [a, b, c, d, e] = K [a, 0, 0, 0, 0] ^^^ (K [0, b, 0, 0, 0] ^^^ (K [0, 0, c, 0, 0] ^^^ (K [0, 0, 0, d, 0] ^^^ K [0, 0, 0, 0, e]))) := by
  rw [five, hK (ns := [a, 0, 0, 0, 0]) (by simp), hK (ns := [0, b, 0, 0, 0]) (by simp), hK (ns := [0, 0, c, 0, 0]) (by simp), hK (ns := [0, 0, 0, d, 0]) (by simp)]
theorem bs0 : ∀ i, i < 8 → H [2 ^ i, 0, 0, 0, 0] = G [2 ^ i, 0, 0, 0, 0] := by decide +kernel
theorem bs1 : ∀ i, i < 8 → H [0, 2 ^ i, 0, 0, 0] = G [0, 2 ^ i, 0, 0, 0] := by decide +kernel
theorem bs2 : ∀ i, i < 8 → H [0, 0, 2 ^ i, 0, 0] = G [0, 0, 2 ^ i, 0, 0] := by decide +kernel
theorem bs3 : ∀ i, i < 8 → H [0, 0, 0, 2 ^ i, 0] = G [0, 0, 0, 2 ^ i, 0] := by decide +kernel
theorem bs4 : ∀ i, i < 8 → H [0, 0, 0, 0, 2 ^ i] = G [0, 0, 0, 0, 2 ^ i] := by decide +kernel
theorem slot0 {K : List Nat → Nat} (hK : ∀ {ns ms : List Nat}, ns.length = ms.length → K (xl ns ms) = K ns ^^^ K ms) (x y : Nat) : K [x ^^^ y, 0, 0, 0, 0] = K [x, 0, 0, 0, 0] ^^^ K [y, 0, 0, 0, 0] := by
  rw [← hK (ns := [x, 0, 0, 0, 0]) (ms := [y, 0, 0, 0, 0]) rfl]; simp [xl]
theorem slot1 {K : List Nat → Nat} (hK : ∀ {ns ms : List Nat}, ns.length = ms.length → K (xl ns ms) = K ns ^^^ K ms) (x y : Nat) : K [0, x ^^^ y, 0, 0, 0] = K [0, x, 0, 0, 0] ^^^ K [0, y, 0, 0, 0] := by
  rw [← hK (ns := [0, x, 0, 0, 0]) (ms := [0, y, 0, 0, 0]) rfl]; simp [xl]
theorem slot2 {K : List Nat → Nat} (hK : ∀ {ns ms : List Nat}, ns.length = ms.length → K (xl ns ms) = K ns ^^^ K ms) (x y : Nat) : K [0, 0, x ^^^ y, 0, 0] = K [0, 0, x, 0, 0] ^^^ K [0, 0, y, 0, 0] := by
  rw [← hK (ns := [0, 0, x, 0, 0]) (ms := [0, 0, y, 0, 0]) rfl]; simp [xl]
theorem slot3 {K : List Nat → Nat} (hK : ∀ {ns ms : List Nat}, ns.length = ms.length → K (xl ns ms) = K ns ^^^ K ms) (x y : Nat) : K [0, 0, 0, x ^^^ y, 0] = K [0, 0, 0, x, 0] ^^^ K [0, 0, 0, y, 0] := by
  rw [← hK (ns := [0, 0, 0, x, 0]) (ms := [0, 0, 0, y, 0]) rfl]; simp [xl]
theorem slot4 {K : List Nat → Nat} (hK : ∀ {ns ms : List Nat}, ns.length = ms.length → K (xl ns ms) = K ns ^^^ K ms) (x y : Nat) : K [0, 0, 0, 0, x ^^^ y] = K [0, 0, 0, 0, x] ^^^ K [0, 0, 0, 0, y] := by
  rw [← hK (ns := [0, 0, 0, 0, x]) (ms := [0, 0, 0, 0, y]) rfl]; simp [xl]
theorem HG {a b c d e : Nat} (ha : a < 256) (hb : b < 256) (hc : c < 256) (hd : d < 256) (he : e < 256) : H [a, b, c, d, e] = G [a, b, c, d, e] := by
  rw [GH_five H_xor, GH_five G_xor]
  rw [show H [a, 0, 0, 0, 0] = G [a, 0, 0, 0, 0] from basis (f := fun x => H [x, 0, 0, 0, 0]) (g := fun x => G [x, 0, 0, 0, 0]) (slot0 H_xor) (slot0 G_xor) 8 bs0 a ha]
  rw [show H [0, b, 0, 0, 0] = G [0, b, 0, 0, 0] from basis (f := fun x => H [0, x, 0, 0, 0]) (g := fun x => G [0, x, 0, 0, 0]) (slot1 H_xor) (slot1 G_xor) 8 bs1 b hb]
  rw [show H [0, 0, c, 0, 0] = G [0, 0, c, 0, 0] from basis (f := fun x => H [0, 0, x, 0, 0]) (g := fun x => G [0, 0, x, 0, 0]) (slot2 H_xor) (slot2 G_xor) 8 bs2 c hc]
  rw [show H [0, 0, 0, d, 0] = G [0, 0, 0, d, 0] from basis (f := fun x => H [0, 0, 0, x, 0]) (g := fun x => G [0, 0, 0, x, 0]) (slot3 H_xor) (slot3 G_xor) 8 bs3 d hd]
  rw [show H [0, 0, 0, 0, e] = G [0, 0, 0, 0, e] from basis (f := fun x => H [0, 0, 0, 0, x]) (g := fun x => G [0, 0, 0, 0, x]) (slot4 H_xor) (slot4 G_xor) 8 bs4 e he]
theorem init_eq : rv (dv (hor (fun j => if j < 32 then 1 else 0) 72) 40) = [0, 0, 0, 0, 0].foldl fitStep 4294967295 := by decide +kernel
/-- the check that the law reckons is the CRC -/
theorem check_val {ns : List Nat} (hl : ns.length = 5) (hb : ∀ x ∈ ns, x < 256) : ckZ (divTo (wholeTo ns 72) 40) = ((ns.foldl fitStep 4294967295 ^^^ 4294967295 : Nat) : Int) := by
  match ns, hl with
  | [a, b, c, d, e], _ =>
    rw [ckZ_rv, (divTo_dv (wholeTo_lt _ 72) 40 (Nat.le_refl _)).1, wholeTo_hor, dv_xor, rv_xor, init_eq]
    have h1 : rv (dv (hor (bitAt [a, b, c, d, e]) 72) 40) = G [a, b, c, d, e] := HG (hb a (by simp)) (hb b (by simp)) (hb c (by simp)) (hb d (by simp)) (hb e (by simp))
    rw [h1]
    have h2 := fold_xor [0, 0, 0, 0, 0] [a, b, c, d, e] 4294967295 0 rfl
    rw [Nat.xor_zero] at h2
    have h3 : xl [0, 0, 0, 0, 0] [a, b, c, d, e] = [a, b, c, d, e] := by simp [xl]
    rw [h3] at h2
    rw [h2]
    rfl
end Mine
end PartCrcQ
section PartCrcR
namespace Mine
theorem stepN_lt {x : Nat} (h : x < 2 ^ 32) : stepN x < 2 ^ 32 := by
  unfold stepN
  split
  · exact Nat.xor_lt_two_pow (by omega) (by decide)
  · omega
theorem stepN_zero {x : Nat} (h : x < 2 ^ 32) (hz : stepN x = 0) : x = 0 := by
  unfold stepN at hz
  split at hz
  · exfalso
    have h1 : (x / 2 ^^^ 3988292384) / 2 ^ 31 = x / 2 / 2 ^ 31 ^^^ 3988292384 / 2 ^ 31 := Nat.xor_div_two_pow
    rw [hz, show x / 2 / 2 ^ 31 = 0 by omega] at h1
    revert h1; decide
  · omega
theorem itN_lt {x : Nat} (h : x < 2 ^ 32) : ∀ n, itN n x < 2 ^ 32
  | 0 => h
  | n + 1 => stepN_lt (itN_lt h n)
theorem itN_zero {x : Nat} (h : x < 2 ^ 32) : ∀ n, itN n x = 0 → x = 0
  | 0, hz => hz
  | n + 1, hz => itN_zero h n (stepN_zero (itN_lt h n) hz)
theorem itN_shift (y : Nat) : ∀ n k, itN n (2 ^ (n + k) * y) = 2 ^ k * y
  | 0, k => by rw [Nat.zero_add]; rfl
  | n + 1, k => by
    show stepN (itN n (2 ^ (n + 1 + k) * y)) = 2 ^ k * y
    rw [show n + 1 + k = n + (k + 1) by omega, itN_shift y n (k + 1)]
    unfold stepN
    have e : 2 ^ (k + 1) * y = 2 * (2 ^ k * y) := by rw [Nat.pow_succ]; ac_rfl
    rw [e, if_neg (by omega)]
    omega
theorem fitStep_it {c n : Nat} (hn : n < 256) : fitStep c n = itN 8 (c ^^^ n) := by
  have e : c = 2 ^ (8 + 0) * (c / 256) ^^^ c % 256 := by
    have h := nat_xor_and (2 ^ (8 + 0) * (c / 256)) (c % 256)
    have h0 : 2 ^ (8 + 0) * (c / 256) &&& c % 256 = 0 := by
      refine Nat.eq_of_testBit_eq fun i => ?_
      rw [Nat.testBit_and, Nat.zero_testBit]
      by_cases hi : i < 8
      · rw [Nat.testBit_two_pow_mul]
        simp; omega
      · rw [Nat.testBit_lt_two_pow (x := c % 256) (Nat.lt_of_lt_of_le (Nat.mod_lt _ (by decide)) (show 2 ^ 8 ≤ 2 ^ i from Nat.pow_le_pow_right (by decide) (by omega)))]
        simp
    omega
  have e2 : itN 8 (c ^^^ n) = itN 8 (2 ^ (8 + 0) * (c / 256)) ^^^ itN 8 (c % 256 ^^^ n) := by
    rw [← itN_xor]
    congr 1
    rw [← Nat.xor_assoc, ← e]
  rw [e2, itN_shift]
  unfold fitStep
  simp
/-- what a byte's step was made of -/
theorem fit_back {c n d : Nat} (hc : c < 2 ^ 32) (hn : n < 256) (hd : d < 2 ^ 24) (h : fitStep c n = d) : c = 256 * d ^^^ n := by
  rw [fitStep_it hn] at h
  have h1 : itN 8 (256 * d) = d := by have := itN_shift d 8 0; simpa using this
  have hcn : c ^^^ n < 2 ^ 32 := Nat.xor_lt_two_pow hc (by omega)
  have h2 : itN 8 ((c ^^^ n) ^^^ 256 * d) = 0 := by rw [itN_xor, h, h1, Nat.xor_self]
  have h3 := itN_zero (Nat.xor_lt_two_pow hcn (by omega)) 8 h2
  have h4 : c = ((c ^^^ n) ^^^ 256 * d) ^^^ (256 * d ^^^ n) := by
    rw [show ((c ^^^ n) ^^^ 256 * d) ^^^ (256 * d ^^^ n) = c ^^^ ((n ^^^ n) ^^^ (256 * d ^^^ 256 * d)) by ac_rfl, Nat.xor_self, Nat.xor_self, Nat.xor_self, Nat.xor_zero]
  rw [h3, Nat.zero_xor] at h4
  exact h4
theorem fitStep_lt {c n : Nat} (hc : c < 2 ^ 32) (hn : n < 256) : fitStep c n < 2 ^ 32 := by
  rw [fitStep_it hn]
  exact itN_lt (Nat.xor_lt_two_pow hc (by omega)) 8
theorem xor_mul_lt {d n k : Nat} (hd : d < 2 ^ k) (hn : n < 256) : 256 * d ^^^ n < 2 ^ (k + 8) := by
  have h1 : 0 < 2 ^ k := Nat.pow_pos (by decide)
  have e : 2 ^ (k + 8) = 2 ^ k * 256 := Nat.pow_add 2 k 8
  exact Nat.xor_lt_two_pow (by rw [e]; omega) (by rw [e]; omega)
theorem xor_mul_zero {d n : Nat} (hn : n < 256) (h : 256 * d ^^^ n = 0) : d = 0 ∧ n = 0 := by
  have e : n = 256 * d := by
    have : (256 * d ^^^ n) ^^^ n = n := by rw [h, Nat.zero_xor]
    rw [Nat.xor_assoc, Nat.xor_self, Nat.xor_zero] at this
    exact this.symm
  omega
theorem four_zero {a b c d x : Nat} (ha : a < 256) (hb : b < 256) (hc : c < 256) (hd : d < 256) (hx : x = 0) (h : fitStep (fitStep (fitStep (fitStep x a) b) c) d = 0) : a = 0 ∧ b = 0 ∧ c = 0 ∧ d = 0 := by
  subst hx
  have l1 : fitStep 0 a < 2 ^ 32 := fitStep_lt (by decide) ha
  have l2 := fitStep_lt l1 hb
  have l3 := fitStep_lt l2 hc
  have h3 := fit_back l3 hd (by decide) h
  rw [Nat.mul_zero, Nat.zero_xor] at h3
  have h2 := fit_back l2 hc (by omega) h3
  have k2 := xor_mul_lt (k := 8) (show d < 2 ^ 8 from hd) hc
  have h1 := fit_back l1 hb (by rw [← h2] at k2; omega) h2
  have k1 := xor_mul_lt k2 hb
  have h0 := fit_back (show 0 < 2 ^ 32 by decide) ha (by omega) h1
  obtain ⟨q1, q2⟩ := xor_mul_zero ha h0.symm
  obtain ⟨q3, q4⟩ := xor_mul_zero hb q1
  obtain ⟨q5, q6⟩ := xor_mul_zero hc q3
  exact ⟨q2, q4, q6, q5⟩
theorem window_zero {a b c d e : Nat} (ha : a < 256) (hb : b < 256) (hc : c < 256) (hd : d < 256) (he : e < 256) (hw : a = 0 ∨ e = 0) (h : G [a, b, c, d, e] = 0) : a = 0 ∧ b = 0 ∧ c = 0 ∧ d = 0 ∧ e = 0 := by
  have h' : fitStep (fitStep (fitStep (fitStep (fitStep 0 a) b) c) d) e = 0 := h
  rcases hw with rfl | rfl
  · have := four_zero hb hc hd he (show fitStep 0 0 = 0 by decide) h'
    exact ⟨rfl, this⟩
  · have l1 : fitStep 0 a < 2 ^ 32 := fitStep_lt (by decide) ha
    have l4 := fitStep_lt (fitStep_lt (fitStep_lt l1 hb) hc) hd
    have h4 := fit_back l4 he (by decide) h'
    rw [Nat.mul_zero, Nat.zero_xor] at h4
    obtain ⟨q1, q2, q3, q4⟩ := four_zero ha hb hc hd rfl h4
    exact ⟨q1, q2, q3, q4, rfl⟩
end Mine
end PartCrcR
section PartCrcS
namespace Mine
abbrev zr : List Nat := [0, 0, 0, 0, 0]
theorem xl_flipOne {ns ms : List Nat} (h1 : ns.length = ms.length) (b : Nat) : flipOne (xl ns ms) b = xl ns (flipOne ms b) := by
  unfold flipOne
  refine List.ext_getElem? fun i => ?_
  by_cases hi : i < ns.length
  · have hi2 : i < ms.length := by omega
    by_cases hb : b / 8 = i
    · subst hb
      rw [xl_getD h1]
      have hm : b / 8 < min ns.length ms.length := by omega
      simp [List.getElem?_set, List.getElem?_zipWith, hi, hi2, hm, List.getD_eq_getElem?_getD, Nat.xor_assoc]
    · simp [List.getElem?_set, List.getElem?_zipWith, hb, hi, hi2]
  · have hi2 : ¬ i < ms.length := by omega
    rw [List.getElem?_eq_none (by simp; omega), List.getElem?_eq_none (by simp; omega)]
theorem flipTo_xl {ns ms : List Nat} (h1 : ns.length = ms.length) (bs : List Nat) (c : Nat) : ∀ k, flipTo (xl ns ms) bs c k = xl ns (flipTo ms bs c k)
  | 0 => rfl
  | k + 1 => by
    rw [flipTo, flipTo, flipTo_xl h1 bs c k]
    split
    · rw [xl_flipOne (by rw [flipTo_length, h1])]
    · rfl
theorem xl_zr {ns : List Nat} (h : ns.length = 5) : xl ns zr = ns := by
  match ns, h with
  | [a, b, c, d, e], _ => simp [xl]
theorem flipTo_zr {ns : List Nat} (h : ns.length = 5) (bs : List Nat) (c k : Nat) : flipTo ns bs c k = xl ns (flipTo zr bs c k) := by
  have := flipTo_xl (ns := ns) (ms := zr) h bs c k
  rw [xl_zr h] at this
  exact this
theorem xl_assoc (a b c : List Nat) : xl (xl a b) c = xl a (xl b c) := by
  induction a generalizing b c with
  | nil => simp [xl]
  | cons x a ih =>
    cases b with
    | nil => simp [xl]
    | cons y b =>
      cases c with
      | nil => simp [xl]
      | cons z c =>
        have := ih b c
        simp only [xl, List.zipWith_cons_cons, Nat.xor_assoc] at this ⊢
        rw [this]
/-- the bits of a flipped row -/
theorem bitAt_flipOne {ms : List Nat} (hl : ms.length = 5) {b p : Nat} (hb : b < 40) : bitAt (flipOne ms b) p = bitAt ms p ^^^ (if p = b then 1 else 0) := by
  unfold bitAt
  by_cases hp : p < 40
  · rw [if_pos hp, if_pos hp]
    unfold flipOne
    have hset : (ms.set (b / 8) (ms.getD (b / 8) 0 ^^^ 2 ^ (b % 8))).getD (p / 8) 0 = if p / 8 = b / 8 then ms.getD (p / 8) 0 ^^^ 2 ^ (b % 8) else ms.getD (p / 8) 0 := by
      simp only [List.getD_eq_getElem?_getD, List.getElem?_set]
      by_cases e : p / 8 = b / 8
      · rw [if_pos e, if_pos e.symm, if_pos (by omega), e]; rfl
      · rw [if_neg e, if_neg (fun h => e h.symm)]
    rw [hset]
    by_cases e : p / 8 = b / 8
    · rw [if_pos e, bit_xor]
      congr 1
      by_cases e2 : p = b
      · subst e2
        rw [if_pos rfl, Nat.div_self (Nat.pow_pos (by decide))]
      · rw [if_neg e2]
        have h8 : ∀ i, i < 8 → ∀ j, j < 8 → i ≠ j → 2 ^ i / 2 ^ j % 2 = 0 := by decide
        exact h8 _ (Nat.mod_lt _ (by decide)) _ (Nat.mod_lt _ (by decide)) (by omega)
    · rw [if_neg e, if_neg (fun h => e (by rw [h])), Nat.xor_zero]
  · rw [if_neg hp, if_neg hp, if_neg (by omega)]; rfl
theorem bit2 (c k : Nat) : (if c / 2 ^ k % 2 = 1 then 1 else 0) = c / 2 ^ k % 2 := by
  have : c / 2 ^ k % 2 = 0 ∨ c / 2 ^ k % 2 = 1 := by omega
  rcases this with h | h <;> rw [h] <;> rfl
theorem bitAt_flipTo {bs : List Nat} (hb : ∀ x ∈ bs, x < 40) (hbl : bs.length = 4) (c p : Nat) : ∀ k, k ≤ 4 → bitAt (flipTo zr bs c (k)) p = hor (fun _ => 0) 0 ^^^ (List.range k).foldl (fun a j => a ^^^ (if p = bs.getD j 0 then c / 2 ^ j % 2 else 0)) 0
  | 0, _ => by
    have h5 : ∀ q, zr.getD q 0 = 0 := fun q => by
      match q with
      | 0 | 1 | 2 | 3 | 4 => rfl
      | _ + 5 => rfl
    show bitAt zr p = _
    unfold bitAt
    rw [h5]
    simp [hor]
  | k + 1, hk => by
    have ih := bitAt_flipTo hb hbl c p k (by omega)
    have hbk : bs.getD k 0 < 40 := by
      have : k < bs.length := by omega
      rw [List.getD_eq_getElem?_getD, List.getElem?_eq_getElem this]
      exact hb _ (List.getElem_mem this)
    rw [List.range_succ, List.foldl_append, flipTo]
    simp only [List.foldl_cons, List.foldl_nil]
    rw [← Nat.xor_assoc, ← ih]
    by_cases h : c / 2 ^ k % 2 = 1
    · rw [if_pos h, bitAt_flipOne (by rw [flipTo_length]; rfl) hbk, h]
    · rw [if_neg h, show c / 2 ^ k % 2 = 0 by omega]
      simp
theorem flip_reads {bs : List Nat} (hb : ∀ x ∈ bs, x < 40) (hbl : bs.length = 4) (hnd : bs.Nodup) (c : Nat) : ∀ j, j < 4 → bitAt (flipTo zr bs c 4) (bs.getD j 0) = c / 2 ^ j % 2 := by
  intro j hj
  rw [bitAt_flipTo hb hbl c _ 4 (Nat.le_refl _), show List.range 4 = [0, 1, 2, 3] by decide]
  match bs, hbl with
  | [x, y, z, u], _ =>
    simp only [List.nodup_cons, List.mem_cons, List.not_mem_nil, or_false, not_or] at hnd
    obtain ⟨⟨n1, n2, n3⟩, ⟨n4, n5⟩, n6, -⟩ := hnd
    have m1 := Ne.symm n1
    have m2 := Ne.symm n2
    have m3 := Ne.symm n3
    have m4 := Ne.symm n4
    have m5 := Ne.symm n5
    have m6 := Ne.symm n6
    have : j = 0 ∨ j = 1 ∨ j = 2 ∨ j = 3 := by omega
    rcases this with rfl | rfl | rfl | rfl <;> simp [hor, n1, n2, n3, n4, n5, n6, m1, m2, m3, m4, m5, m6]
theorem flip_inj {bs : List Nat} (hb : ∀ x ∈ bs, x < 40) (hbl : bs.length = 4) (hnd : bs.Nodup) {c d : Nat} (hc : c < 16) (hd : d < 16) (h : flipTo zr bs c 4 = flipTo zr bs d 4) : c = d := by
  have q : ∀ j, j < 4 → c / 2 ^ j % 2 = d / 2 ^ j % 2 := fun j hj => by rw [← flip_reads hb hbl hnd c j hj, ← flip_reads hb hbl hnd d j hj, h]
  have q0 := q 0 (by decide)
  have q1 := q 1 (by decide)
  have q2 := q 2 (by decide)
  have q3 := q 3 (by decide)
  omega
/-- bytes stay bytes, and the byte outside the window stays nought -/
theorem flipTo_bytes {bs : List Nat} {f : Nat} (hf : f = 0 ∨ f = 8) (hb : ∀ x ∈ bs, f ≤ x ∧ x < f + 32) (hbl : bs.length = 4) (c : Nat) : ∀ k, k ≤ 4 → (∀ i, (flipTo zr bs c k).getD i 0 < 256) ∧ (f = 0 → (flipTo zr bs c k).getD 4 0 = 0) ∧ (f = 8 → (flipTo zr bs c k).getD 0 0 = 0)
  | 0, _ => by
    refine ⟨fun q => ?_, fun _ => rfl, fun _ => rfl⟩
    match q with
    | 0 | 1 | 2 | 3 | 4 => exact (show 0 < 256 by decide)
    | _ + 5 => exact (show 0 < 256 by decide)
  | k + 1, hk => by
    obtain ⟨h1, h2, h3⟩ := flipTo_bytes hf hb hbl c k (by omega)
    rw [flipTo]
    split
    · have hbk : f ≤ bs.getD k 0 ∧ bs.getD k 0 < f + 32 := by
        have : k < bs.length := by omega
        rw [List.getD_eq_getElem?_getD, List.getElem?_eq_getElem this]
        exact hb _ (List.getElem_mem this)
      generalize bs.getD k 0 = b at hbk
      have hl : (flipTo zr bs c k).length = 5 := by rw [flipTo_length]; rfl
      generalize flipTo zr bs c k = ms at h1 h2 h3 hl
      have hset : ∀ i, (flipOne ms b).getD i 0 = if i = b / 8 then ms.getD i 0 ^^^ 2 ^ (b % 8) else ms.getD i 0 := fun i => by
        unfold flipOne
        simp only [List.getD_eq_getElem?_getD, List.getElem?_set]
        by_cases e : i = b / 8
        · rw [if_pos e, if_pos e.symm, if_pos (by omega), e]; rfl
        · rw [if_neg e, if_neg (fun h => e h.symm)]
      have h8 : ∀ j, j < 8 → 2 ^ j < 256 := by decide
      refine ⟨fun i => ?_, fun e => ?_, fun e => ?_⟩
      · rw [hset]
        split
        · exact Nat.xor_lt_two_pow (n := 8) (h1 i) (h8 _ (Nat.mod_lt _ (by decide)))
        · exact h1 i
      · rw [hset, if_neg (by omega)]; exact h2 e
      · rw [hset, if_neg (by omega)]; exact h3 e
    · exact ⟨h1, h2, h3⟩
theorem xl_eq_zr {ns ms : List Nat} (h1 : ns.length = 5) (h2 : ms.length = 5) (h : ∀ i, i < 5 → ns.getD i 0 ^^^ ms.getD i 0 = 0) : ns = ms := by
  refine List.ext_getElem (by omega) fun i q1 q2 => ?_
  have := h i (by omega)
  rw [List.getD_eq_getElem?_getD, List.getD_eq_getElem?_getD, List.getElem?_eq_getElem q1, List.getElem?_eq_getElem q2] at this
  simp only [Option.getD_some] at this
  have e : ns[i] ^^^ ms[i] ^^^ ms[i] = ms[i] := by rw [this, Nat.zero_xor]
  rw [Nat.xor_assoc, Nat.xor_self, Nat.xor_zero] at e
  exact e
/-- the CRC fits just the choice that came in flipped -/
theorem fit_just {sent bs : List Nat} {f wr c : Nat} (hl : sent.length = 5) (hs : ∀ x ∈ sent, x < 256) (hbl : bs.length = 4) (hnd : bs.Nodup) (hf : f = 0 ∨ f = 8) (hb : ∀ x ∈ bs, f ≤ x ∧ x < f + 32) (hw : wr < 16) (hc : c < 16) :
    fitB (flipTo sent bs wr 4) bs (ckZ (divTo (wholeTo sent 72) 40)) c = decide (c = wr) := by
  have hb40 : ∀ x ∈ bs, x < 40 := fun x hx => by have := hb x hx; omega
  unfold fitB
  rw [check_val hl hs, decide_eq_decide, flipTo_zr (by rw [flipTo_length, hl]), flipTo_zr hl, xl_assoc]
  have lw : (flipTo zr bs wr 4).length = 5 := by rw [flipTo_length]; rfl
  have lc : (flipTo zr bs c 4).length = 5 := by rw [flipTo_length]; rfl
  have lx := xl_length lw lc
  have hfold := fold_xor sent (xl (flipTo zr bs wr 4) (flipTo zr bs c 4)) 4294967295 0 (by rw [hl, lx])
  rw [Nat.xor_zero] at hfold
  rw [hfold]
  constructor
  · intro h
    have h1 : (sent.foldl fitStep 4294967295 ^^^ (xl (flipTo zr bs wr 4) (flipTo zr bs c 4)).foldl fitStep 0) ^^^ 4294967295 = sent.foldl fitStep 4294967295 ^^^ 4294967295 := by exact_mod_cast h
    have hG : G (xl (flipTo zr bs wr 4) (flipTo zr bs c 4)) = 0 := by
      have h2 : ∀ a x y : Nat, (a ^^^ x) ^^^ y = a ^^^ y → x = 0 := fun a x y e => by
        have : a ^^^ ((a ^^^ x) ^^^ y) ^^^ y = a ^^^ (a ^^^ y) ^^^ y := by rw [e]
        rw [show a ^^^ ((a ^^^ x) ^^^ y) ^^^ y = (a ^^^ a) ^^^ (y ^^^ y) ^^^ x by ac_rfl, show a ^^^ (a ^^^ y) ^^^ y = (a ^^^ a) ^^^ (y ^^^ y) by ac_rfl, Nat.xor_self, Nat.xor_self, Nat.xor_self, Nat.zero_xor] at this
        exact this
      exact h2 _ _ _ h1
    obtain ⟨b1, b2, b3⟩ := flipTo_bytes hf hb hbl wr 4 (Nat.le_refl _)
    obtain ⟨d1, d2, d3⟩ := flipTo_bytes hf hb hbl c 4 (Nat.le_refl _)
    have hg : ∀ i, (xl (flipTo zr bs wr 4) (flipTo zr bs c 4)).getD i 0 = (flipTo zr bs wr 4).getD i 0 ^^^ (flipTo zr bs c 4).getD i 0 := fun i => xl_getD (by rw [lw, lc]) i
    have hby : ∀ i, (xl (flipTo zr bs wr 4) (flipTo zr bs c 4)).getD i 0 < 256 := fun i => by rw [hg]; exact Nat.xor_lt_two_pow (n := 8) (b1 i) (d1 i)
    have hwin : (xl (flipTo zr bs wr 4) (flipTo zr bs c 4)).getD 0 0 = 0 ∨ (xl (flipTo zr bs wr 4) (flipTo zr bs c 4)).getD 4 0 = 0 := by
      rcases hf with e | e
      · right; rw [hg, b2 e, d2 e]; rfl
      · left; rw [hg, b3 e, d3 e]; rfl
    have hz : ∀ i, i < 5 → (xl (flipTo zr bs wr 4) (flipTo zr bs c 4)).getD i 0 = 0 := by
      clear hg hfold h h1
      generalize xl (flipTo zr bs wr 4) (flipTo zr bs c 4) = e at *
      match e, lx with
      | [e0, e1, e2, e3, e4], _ =>
        obtain ⟨z0, z1, z2, z3, z4⟩ := window_zero (hby 0) (hby 1) (hby 2) (hby 3) (hby 4) hwin hG
        intro i hi
        have : i = 0 ∨ i = 1 ∨ i = 2 ∨ i = 3 ∨ i = 4 := by omega
        rcases this with rfl | rfl | rfl | rfl | rfl <;> assumption
    exact (flip_inj hb40 hbl hnd hw hc (xl_eq_zr lw lc fun i hi => by rw [← hg]; exact hz i hi)).symm
  · rintro rfl
    have hG0 : (xl (flipTo zr bs c 4) (flipTo zr bs c 4)).foldl fitStep 0 = 0 := by
      show G (xl _ _) = 0
      rw [G_xor rfl, Nat.xor_self]
    rw [hG0, Nat.xor_zero]
end Mine
end PartCrcS
section PartW2
set_option maxRecDepth 100000
set_option maxHeartbeats 8000000
set_option pp.deepTerms false
set_option pp.deepTerms.threshold 5
set_option pp.maxSteps 20000
namespace Mine
local macro_rules | `(tactic| walk_at "execs cons") => `(tactic| dsimp only)
local macro_rules | `(tactic| walk_at "execs nil") => `(tactic| dsimp only)
local macro_rules | `(tactic| walk_at "binaryOp") => `(tactic| dsimp only)
theorem fr_price {h₀ h : Heap} {L : Addr} {m mm : Str → Option Value} {x : Str} (hm : ∀ z, z ≠ x → m z = mm z) (F : Fr h₀ L h m) : Fr h₀ L h (fun z => if z = x then m x else mm z) := by
  have e : m = fun z => if z = x then m x else mm z := funext fun z => by
    by_cases hz : z = x
    · rw [if_pos hz, hz]
    · rw [if_neg hz]; exact hm z hz
  rw [← e]; exact F
local macro_rules | `(tactic| k_all) => `(tactic| assumption)
theorem main1 : PySem.Challenge.rw_mq0079_01.Holds := hd (by
  k_with_none
  k_with "exec For Name Call cons nil" => (refine Stop.out ?_)
  k_with "pyIter ref" => (refine Stop.out ?_)
  k_with "call ref cons nil" => (refine Stop.out ?_)
  k_with "call builtin:sorted cons nil" => (refine Stop.out ?_)
  k_go0; (all_goals try k_fold)
  rename Shared => sh1
  rename_i ocA ocB hcA hcB N00 X00
  k_steps
  refine Stop.mk ?_
  k_dflt (refine' numbers_spec ?kB ?kF ?kX ?kN ?kT ?kk ?kG ?kl ?ki ?kn ?kd ?ku ?kR; (case kB => k_asm); (case kF => k_asm); (case kX => k_asm); (case kN => k_asm); (case kT => k_asm); (case kk => exact rfl); (case kG => k_asm); (case kl => k_asm); (case ki => k_asm); (case kn => omega); (case kd => ktr_room); (case ku => ktr_units))
  intro Dn wn ns h1 tk1 F1 N1 hDn hIn hnl
  k_lt hDn
  k_steps
  refine Stop.mk ?_
  rename News _ _ _ _ => N2
  rename_i Ds _ _ _ _
  rename List Value => svs
  have N3 : News _ _ _ [(Dn, listOf wn.toArray 0), _, _, _] := fun p hp => N2 p (by
    rcases List.mem_cons.mp hp with h | hp
    · exact .tail _ (h ▸ .head _)
    · rcases List.mem_cons.mp hp with h | hp
      · exact h ▸ .head _
      · exact .tail _ (.tail _ hp))
  k_dflt (refine' bits_spec ?kB2 ?kF2 ?kX2 N3 ?kT2 ?kk2 hIn hnl ?kd2 ?ku2 ?kR2; (case kB2 => k_asm); (case kF2 => k_asm); (case kX2 => k_asm); (case kT2 => k_asm); (case kk2 => exact rfl); (case kd2 => ktr_room); (case ku2 => ktr_units))
  intro Db wb bs f h2 n2 tk2 F2 N4 hDb hIb hbl hbn hf hbr
  k_lt hDb
  clear N3 N2
  k_steps
  refine Stop.mk ?_
  rename Fr _ _ _ _ => F3
  refine For_invTF F3 ?_ (by intro _; rfl)
  k_steps
  refine Stop.mk ?_
  rename IsRange _ _ _ _ _ _ _ _ => R1
  rename Fr _ _ _ _ => F4
  rename News _ _ _ _ => N5
  rename_i Dp _ _ oDp _ op hcp _ _ _ _ _ ld _ hld _ _ _ _ _ _ _ _ hkeep
  rename IntsAre _ (List.map _ (List.take 4 (zs ns))) => hIp
  rename IntsAre _ (List.map _ (zs ns)) => hIs
  have hps : ∃ ps : List Nat, zs ps = List.map (fun k' : Int => (k'.fdiv 8192).fmod 10) (List.take 4 (zs ns)) ∧ ps.length = 4 := by
    refine ⟨_, zs_of ?_, ?_⟩
    · intro x hx
      obtain ⟨k, _, rfl⟩ := List.mem_map.mp hx
      exact Int.fmod_nonneg_of_pos _ (by decide)
    · simp only [List.length_map, List.length_take]; omega
  obtain ⟨ps, hps1, hps2⟩ := hps
  rw [← hps1] at hIp
  have hwr : ∃ wr : Nat, ((zs ns).sum.fdiv 256).fmod 16 = (wr : Int) ∧ wr < 16 := by
    have h1 := Int.fmod_nonneg_of_pos ((zs ns).sum.fdiv 256) (show (0 : Int) < 16 by decide)
    have h2 := Int.fmod_lt_of_pos ((zs ns).sum.fdiv 256) (show (0 : Int) < 16 by decide)
    exact ⟨(((zs ns).sum.fdiv 256).fmod 16).toNat, by omega, by omega⟩
  obtain ⟨wr, hwr1, hwr2⟩ := hwr
  rw [hwr1] at F4
  with_unfolding_all refine' range_any (n := 16) (m₀ := ?mm) (news := (ld, listOf (refsOf []) 0) :: (sh1.heap.objs.size + 1 + 1, ocA) :: (sh1.heap.objs.size + 1, op) :: (Dp, LCg.lst ys) :: (Db, listOf wb.toArray n2) :: (Dn, listOf wn.toArray 0) :: (Ds, LCg.lst svs) :: []) (fun I i m news => ∃ dus nd oc tl, news = (ld, listOf (refsOf dus) nd) :: (sh1.heap.objs.size + 1 + 1, oc) :: (sh1.heap.objs.size + 1, op) :: (Dp, LCg.lst ys) :: (Db, listOf wb.toArray n2) :: (Dn, listOf wn.toArray 0) :: (Ds, LCg.lst svs) :: tl ∧ TriedOK ps (fun c => decide (c = wr)) tl dus (List.range i) ∧ (∃ v, oc.data = Data.cell v) ∧ (ld < I ∧ sh1.heap.objs.size + 1 + 1 < I ∧ sh1.heap.objs.size + 1 < I ∧ Dp < I ∧ Db < I ∧ Dn < I ∧ Ds < I) ∧ (∀ p ∈ tl, I < p.1) ∧ (∀ z, z ≠ Str.ofString "price" → m z = ?mm z)) (by rfl) R1 (by decide) (by rfl) F4 ?ln ?la ?lb ?lc
  case ln =>
    intro p hp
    refine N5 p ?_
    rcases List.mem_cons.mp hp with h | hp
    · exact h ▸ .head _
    rcases List.mem_cons.mp hp with h | hp
    · rw [h]; exact .tail _ (.tail _ (.tail _ (.tail _ (.tail _ (.tail _ (.head _))))))
    rcases List.mem_cons.mp hp with h | hp
    · rw [h]; exact .tail _ (.tail _ (.tail _ (.tail _ (.tail _ (.tail _ (.tail _ (.head _)))))))
    rcases List.mem_cons.mp hp with h | hp
    · rw [h]; exact .tail _ (.head _)
    exact .tail _ (.tail _ (.tail _ ((List.mem_cons.mp hp).elim (fun h => h ▸ .head _) fun hp => .tail _ ((List.mem_cons.mp hp).elim (fun h => h ▸ .head _) fun hp => .tail _ ((List.mem_cons.mp hp).elim (fun h => h ▸ .head _) fun hp => nomatch hp)))))
  case la =>
    intro I hlt
    exact ⟨[], 0, ocA, [], rfl, trivial, ⟨_, hcA⟩, ⟨hlt _ (.head _), hlt _ (.tail _ (.head _)), hlt _ (.tail _ (.tail _ (.head _))), hlt _ (.tail _ (.tail _ (.tail _ (.head _)))), hlt _ (.tail _ (.tail _ (.tail _ (.tail _ (.head _))))), hlt _ (.tail _ (.tail _ (.tail _ (.tail _ (.tail _ (.head _)))))), hlt _ (.tail _ (.tail _ (.tail _ (.tail _ (.tail _ (.tail _ (.head _)))))))⟩, (fun _ h => nomatch h), (fun _ _ => rfl)⟩
  case lb =>
    rintro I i t m₁ news₁ sA oI hi ⟨dus, nd, oc, tl, rfl, hTr, ⟨cv, hcv⟩, hI, htl, hm⟩ hneI F5 N6
    have F6 := fr_price hm F5
    clear F5
    have htcc : ∀ p ∈ tl, p.1 ≠ sh1.heap.objs.size + 1 + 1 := fun p hp => Nat.ne_of_gt (Nat.lt_trans hI.2.1 (htl p hp))
    have htld : ∀ p ∈ tl, p.1 ≠ ld := fun p hp => Nat.ne_of_gt (Nat.lt_trans hI.1 (htl p hp))
    k_with "call builtin:sum cons nil" => (refine Stop.out ?_)
    k_with "call builtin:list.append cons nil" => (refine Stop.out ?_)
    k_steps
    refine Stop.mk ?_
    rename Fr _ _ _ _ => F7
    rename News _ _ _ _ => N7
    rename Heap.IsList _ _ _ => hl7
    rename CarriedAll _ _ => hc7
    have hI7 := IntsAre.ofCarried ((congrArg (CarriedAll _) (List.map_map (g := PyData.int)).symm) ▸ hc7)
    with_unfolding_all refine sumK (by rfl) F7 N7 hl7 hI7 ?_
    intro h8 tk8 t8 F8 N8
    clear F7 N7
    k_steps
    refine Stop.mk ?_
    rename Fr _ _ _ _ => F9
    rename News _ _ _ _ => N9
    rename News _ _ _ ((I, oI) :: _) => N10
    rename_i hA FA hBB hkk _ _ _
    have hfr := fun (p : Addr × Obj) hp => Heap.lt_size (N10 p hp).1
    rw [due_price] at N9
    have hfit : ((0 : Int) + (i : Int) == (wr : Int)) = decide (i = wr) := by
      rw [Bool.eq_iff_iff]; simp only [beq_iff_eq, decide_eq_true_eq]; omega
    rw [hfit, Int.zero_add] at N9
    rename Obj => oc2
    have hIA : I < hA.objs.size := hfr (I, oI) (.head _)
    obtain ⟨q1, q2, N11⟩ : ∃ q1 q2, News _ _ _ ((ld, listOf (refsOf dus) nd) :: (I, oI) :: (sh1.heap.objs.size + 1 + 1, oc2) :: (sh1.heap.objs.size + 1, op) :: (Dp, LCg.lst ys) :: (Db, listOf wb.toArray n2) :: (Dn, listOf wn.toArray 0) :: (Ds, LCg.lst svs) :: (hA.objs.size, triObj (price ps i) i (decide (i = wr)) q1 q2 0) :: tl) :=
      ⟨_, _, fun p hp => N9 p (by
        simp only [List.mem_cons] at hp ⊢
        rcases hp with h | h | h | h | h | h | h | h | h | h
        · exact .inr (.inr (.inl h))
        · exact .inr (.inl h)
        · exact .inr (.inr (.inr (.inl h)))
        · exact .inr (.inr (.inr (.inr (.inl h))))
        · exact .inr (.inr (.inr (.inr (.inr (.inl h)))))
        · exact .inr (.inr (.inr (.inr (.inr (.inr (.inl h))))))
        · exact .inr (.inr (.inr (.inr (.inr (.inr (.inr (.inl h)))))))
        · exact .inr (.inr (.inr (.inr (.inr (.inr (.inr (.inr (.inl h))))))))
        · exact .inl h
        · exact .inr (.inr (.inr (.inr (.inr (.inr (.inr (.inr (.inr h)))))))))⟩
    rename Obj.data _ = Data.cell (some (Value.int _ _)) => hoc
    have htl2 : ∀ p ∈ (hA.objs.size, triObj (price ps i) i (decide (i = wr)) q1 q2 0) :: tl, I < p.1 := fun p hp => (List.mem_cons.mp hp).elim (fun e => e ▸ hIA) (htl p)
    have hdl := hTr.length
    have hne9 : ∀ p ∈ (I, oI) :: (sh1.heap.objs.size + 1 + 1, oc2) :: (sh1.heap.objs.size + 1, op) :: (Dp, LCg.lst ys) :: (Db, listOf wb.toArray n2) :: (Dn, listOf wn.toArray 0) :: (Ds, LCg.lst svs) :: (hA.objs.size, triObj (price ps i) i (decide (i = wr)) q1 q2 0) :: tl, p.1 ≠ ld := by
      intro p hp
      simp only [List.mem_cons] at hp
      rcases hp with rfl | rfl | rfl | rfl | rfl | rfl | rfl | rfl | hp
      · exact Nat.ne_of_gt hI.1
      · exact Nat.ne_of_lt hld.2.2.2.2.2.1
      · exact Nat.ne_of_lt hld.2.2.2.2.2.2
      · exact Nat.ne_of_lt hld.1
      · exact Nat.ne_of_lt hld.2.2.1
      · exact Nat.ne_of_lt hld.2.2.2.1
      · exact Nat.ne_of_lt hld.2.2.2.2.1
      · exact Nat.ne_of_gt (Nat.lt_trans hI.1 hIA)
      · exact htld p hp
    k_dflt (refine' append_refs F9 N11 hne9 ?kl9 ?kR9; (case kl9 => (rw [hdl, List.length_range]; omega)))
    intro h10 F10 N12
    clear N11 N9 F9
    k_steps
    refine ⟨rfl, _, _, _, _, rfl, F10, fun p hp => N12 p ?_, ?_, dus ++ [hA.objs.size], nd + 1, oc2, (hA.objs.size, triObj (price ps i) i (decide (i = wr)) q1 q2 0) :: tl, rfl, ?_, ⟨_, hoc⟩, hI, htl2, ?_⟩
    · simp only [List.mem_cons] at hp ⊢
      rcases hp with h | h | h | h | h | h | h | h | h | h <;> simp [h]
    · intro p hp
      simp only [List.mem_cons] at hp
      rcases hp with rfl | rfl | rfl | rfl | rfl | rfl | rfl | rfl | hp
      · exact Nat.ne_of_lt hI.1
      · exact Nat.ne_of_lt hI.2.1
      · exact Nat.ne_of_lt hI.2.2.1
      · exact Nat.ne_of_lt hI.2.2.2.1
      · exact Nat.ne_of_lt hI.2.2.2.2.1
      · exact Nat.ne_of_lt hI.2.2.2.2.2.1
      · exact Nat.ne_of_lt hI.2.2.2.2.2.2
      · exact Nat.ne_of_gt hIA
      · exact Nat.ne_of_gt (htl p hp)
    · rw [List.range_succ]
      exact (hTr.mono fun p hp => .tail _ hp).snoc (t1 := q1) (t2 := q2) (n := 0) (.head _)
    · intro z hz
      simp only [if_neg hz]
  case lc =>
    rintro I m₁ news₁ h11 tk11 F5 N6 ⟨dus, nd, oc, tl, rfl, hTr, ⟨cv, hcv⟩, hI, htl, hm⟩
    have F6 := fr_price hm F5
    clear F5
    k_steps
    refine Stop.mk ?_
    rename News _ _ _ _ => N7
    have hsn : zs (ns.map (· % 256)) = List.map (fun k' : Int => k'.fmod 256) (zs ns) := by
      simp only [zs, List.map_map]
      exact List.map_congr_left fun k _ => (fmod_nat k 256 256 rfl).symm
    rw [← hsn] at hIs
    have hbb : ∀ x ∈ bs, x < 40 := fun x hx => by have := hbr x hx; omega
    k_dflt (refine' flipped_spec wr ?kB4 ?kF4 ?kX4 N7 ?kT4 ?kk4 (.tail _ (.tail _ (.tail _ (.tail _ (.tail _ (.tail _ (.head _))))))) hIs (.tail _ (.tail _ (.tail _ (.tail _ (.head _))))) hIb rfl hbl ?kn4 hbb ?kd4 ?ku4 ?kR4; (case kB4 => k_asm); (case kF4 => k_asm); (case kX4 => k_asm); (case kT4 => k_asm); (case kk4 => exact rfl); (case kn4 => simpa using hnl); (case kd4 => ktr_room); (case ku4 => ktr_units))
    intro D1 ws1 h12 n12 tk12 F7 N8 hD1 hI1
    clear N7
    k_steps
    refine Stop.mk ?_
    k_dflt (refine' check_spec ?kB5 ?kF5 ?kX5 N8 ?kT5 ?kk5 (.tail _ (.tail _ (.tail _ (.tail _ (.tail _ (.tail _ (.tail _ (.head _)))))))) hIs ?kn5 ?kd5 ?ku5 ?kR5; (case kB5 => k_asm); (case kF5 => k_asm); (case kX5 => k_asm); (case kT5 => k_asm); (case kk5 => exact rfl); (case kn5 => simpa using hnl); (case kd5 => ktr_room); (case ku5 => ktr_units))
    intro tck h13 tk13 F8 N9
    clear N8
    k_steps
    refine Stop.mk ?_
    rename News _ _ _ _ => N10
    have N11 : News _ _ _ ((D1, listOf ws1.toArray n12) :: (Db, listOf wb.toArray n2) :: (Dp, LCg.lst ys) :: (ld, listOf (refsOf dus) nd) :: (sh1.heap.objs.size + 1 + 1, oc) :: (sh1.heap.objs.size + 1, op) :: (Dn, listOf wn.toArray 0) :: (Ds, LCg.lst svs) :: tl) := fun p hp => N10 p (by
      simp only [List.mem_cons] at hp ⊢
      rcases hp with h | h | h | h | h | h | h | h | h <;> simp [h])
    clear N10
    have hnl1 : (flipTo (ns.map (· % 256)) bs wr 4).length = 5 := by rw [flipTo_length]; simpa using hnl
    k_dflt (refine' tried_spec ?kB6 ?kF6 ?kX6 N11 ?kT6 ?kk6 hI1 hIb hIp hnl1 hbl hps2 hbb ?kd6 ?ku6 ?kR6; (case kB6 => k_asm); (case kF6 => k_asm); (case kX6 => k_asm); (case kT6 => k_asm); (case kk6 => exact rfl); (case kd6 => ktr_room); (case ku6 => ktr_units))
    intro Dtr us ts tl6 n6 h14 tk14 F9 N12 hTr2 hso hpe
    clear N11
    k_steps
    refine Stop.mk ?_
    k_dflt (refine' sorted_tri F9 N12 (.tail _ (.tail _ (.tail _ (.tail _ (List.mem_append_right _ (.head _)))))) hTr (fun p hp => .tail _ (.tail _ (.tail _ (.tail _ (List.mem_append_right _ (.tail _ (.tail _ (.tail _ (.tail _ (.tail _ hp)))))))))) ?kR7)
    intro Dso nso h15 uso cso F10 N13 hDso hTr3 hso3 hpe3
    have hcs : cso = ts := sorted_unique hso3 hso (hpe3.trans hpe.symm)
    subst hcs
    clear N12 F9
    k_dflt (refine' eq_tri N13 (.tail _ (.head _)) (.head _) hTr2 hTr3 (fun p hp => .tail _ (.tail _ (.tail _ (.tail _ (.tail _ (List.mem_append_left _ hp)))))) (fun p hp => .tail _ (.tail _ (.tail _ (.tail _ (.tail _ (List.mem_append_right _ (.tail _ (.tail _ (.tail _ (.tail _ (.tail _ hp))))))))))) ?kf7 ?ku7 ?kR8)
    case kf7 =>
      intro c hc
      have hc16 : c < 16 := List.mem_range.mp (hpe.mem_iff.mp hc)
      refine fit_just (by simpa using hnl) (fun x hx => ?_) hbl hbn hf hbr hwr2 hc16
      obtain ⟨y, _, rfl⟩ := List.mem_map.mp hx
      exact Nat.mod_lt _ (by decide)
    case ku7 => ktr_units
    k_steps)
end Mine
end PartW2
theorem PySem.Challenge.cw_mq0079_01_holds : PySem.Challenge.rw_mq0079_01.Holds :=
  Mine.main1
