import PyProof.Rows.All
import Wide.All
import OpenK.AllK
import Wide.FinOn
import PySem.Challenge.RW_mr0007_01
open PySem PySem.W PyProof.Rows PySem.Calls
set_option Elab.async false
set_option maxRecDepth 100000
set_option linter.all false
namespace Mine
set_option maxHeartbeats 8000000 in
open_top hd for PySem.Challenge.rw_mr0007_01
end Mine
namespace Mine
abbrev Key := Int × Int
abbrev Itm := Value × Key
/-- Python's order on two lists of two ints -/
def klt (x y : Key) : Bool := if x.1 = y.1 then decide (x.2 < y.2) else decide (x.1 < y.1)
def kle (x y : Key) : Prop := x.1 < y.1 ∨ (x.1 = y.1 ∧ x.2 ≤ y.2)
theorem klt_iff (x y : Key) : klt x y = true ↔ ¬ kle y x := by
  unfold klt kle
  split <;> simp only [decide_eq_true_eq] <;> omega
theorem klt_false (x y : Key) : klt x y = false ↔ kle y x := by
  rw [← Bool.not_eq_true, klt_iff]; exact Classical.not_not
theorem kle_trans {x y z : Key} (h : kle x y) (h' : kle y z) : kle x z := by unfold kle at *; omega
theorem kle_total (x y : Key) : kle x y ∨ kle y x := by unfold kle; omega
theorem kle_refl (x : Key) : kle x x := by unfold kle; omega

theorem at_some {α : Type} {xs : List α} {i : Nat} (h : i < xs.length) : ∃ x, xs[i]? = some x := ⟨_, List.getElem?_eq_getElem h⟩
def ky (xs : List Itm) (i : Nat) : Key := (xs.getD i default).2
theorem ky_set (xs : List Itm) (p : Nat) (x : Itm) (i : Nat) (hp : p < xs.length) : ky (xs.set p x) i = if i = p then x.2 else ky xs i := by
  unfold ky
  simp only [List.getD_eq_getElem?_getD, List.getElem?_set]
  by_cases h : p = i
  · subst h; simp [hp]
  · have h' : ¬ i = p := fun e => h e.symm
    simp [h, h']

def IsHeap (ys : List Itm) : Prop := ∀ i, 0 < i → i < ys.length → kle (ky ys ((i - 1) / 2)) (ky ys i)
/-- all is well but between pos and its parent -/
def Hole (ys : List Itm) (pos : Nat) : Prop :=
  (∀ i, 0 < i → i < ys.length → i ≠ pos → kle (ky ys ((i - 1) / 2)) (ky ys i)) ∧
  (∀ i, 0 < i → i < ys.length → (i - 1) / 2 = pos → 0 < pos → kle (ky ys ((pos - 1) / 2)) (ky ys i))
/-- all is well but between pos and its parent, pos and its children -/
def Hole2 (ys : List Itm) (pos : Nat) : Prop :=
  (∀ i, 0 < i → i < ys.length → i ≠ pos → (i - 1) / 2 ≠ pos → kle (ky ys ((i - 1) / 2)) (ky ys i)) ∧
  (∀ i, 0 < i → i < ys.length → (i - 1) / 2 = pos → 0 < pos → kle (ky ys ((pos - 1) / 2)) (ky ys i))

theorem sd_exit {ys : List Itm} {pos : Nat} (h : Hole ys pos) (e : pos = 0 ∨ kle (ky ys ((pos - 1) / 2)) (ky ys pos)) : IsHeap ys := by
  intro i h0 hi
  by_cases hp : i = pos
  · subst hp
    rcases e with e | e
    · omega
    · exact e
  · exact h.1 i h0 hi hp

/-- what the list is when two places change their items -/
theorem swap_perm (xs : List Itm) (i j : Nat) (x y : Itm) (hi : xs[i]? = some x) (hj : xs[j]? = some y) : List.Perm ((xs.set i y).set j x) xs := by
  obtain ⟨h1, rfl⟩ := List.getElem?_eq_some_iff.mp hi
  obtain ⟨h2, rfl⟩ := List.getElem?_eq_some_iff.mp hj
  exact List.set_set_perm h1 h2

theorem sd_step {ys : List Itm} {pos : Nat} {x y : Itm} (h : Hole ys pos) (h0 : 0 < pos) (hx : ys[pos]? = some x) (hy : ys[(pos - 1) / 2]? = some y) (hl : klt x.2 y.2 = true) :
    Hole ((ys.set pos y).set ((pos - 1) / 2) x) ((pos - 1) / 2) := by
  have hn := (List.getElem?_eq_some_iff.mp hx).1
  have hn' := (List.getElem?_eq_some_iff.mp hy).1
  have ex : ky ys pos = x.2 := by simp [ky, List.getD_eq_getElem?_getD, hx]
  have ey : ky ys ((pos - 1) / 2) = y.2 := by simp [ky, List.getD_eq_getElem?_getD, hy]
  rw [klt_iff] at hl
  obtain ⟨h1, h2⟩ := h
  have K : ∀ i, ky ((ys.set pos y).set ((pos - 1) / 2) x) i = if i = (pos - 1) / 2 then x.2 else if i = pos then y.2 else ky ys i := by
    intro i
    rw [ky_set _ _ _ _ (by rw [List.length_set]; exact hn'), ky_set _ _ _ _ hn]
  have tot := kle_total x.2 y.2
  have hxy : kle x.2 y.2 := by rcases tot with t | t; exact t; exact absurd t hl
  refine ⟨fun i i0 il ip => ?_, fun i i0 il ip p0 => ?_⟩
  · rw [List.length_set, List.length_set] at il
    rw [K, K]
    by_cases e1 : i = pos
    · subst e1
      rw [if_pos rfl, if_neg ip, if_pos rfl]; exact hxy
    · rw [if_neg ip, if_neg e1]
      by_cases e2 : (i - 1) / 2 = (pos - 1) / 2
      · rw [if_pos e2]
        have := h1 i i0 il e1
        rw [e2, ey] at this
        exact kle_trans hxy this
      · rw [if_neg e2]
        by_cases e3 : (i - 1) / 2 = pos
        · rw [if_pos e3]
          have := h2 i i0 il e3 h0
          rw [ey] at this; exact this
        · rw [if_neg e3]; exact h1 i i0 il e1
  · rw [List.length_set, List.length_set] at il
    rw [K, K]
    have a1 : ¬ ((pos - 1) / 2 - 1) / 2 = (pos - 1) / 2 := by omega
    have a2 : ¬ ((pos - 1) / 2 - 1) / 2 = pos := by omega
    have a3 : ¬ i = (pos - 1) / 2 := by omega
    rw [if_neg a1, if_neg a2, if_neg a3]
    have b1 := h1 ((pos - 1) / 2) p0 (by omega) (by omega)
    by_cases e1 : i = pos
    · rw [if_pos e1, ← ey]; exact b1
    · rw [if_neg e1]
      have := h1 i i0 il e1
      rw [ip] at this
      exact kle_trans b1 this

theorem su_step {ys : List Itm} {pos c : Nat} {x y : Itm} (h : Hole2 ys pos) (hc : 0 < c) (hcp : (c - 1) / 2 = pos) (hx : ys[pos]? = some x) (hy : ys[c]? = some y)
    (hl : ∀ i, 0 < i → i < ys.length → (i - 1) / 2 = pos → kle y.2 (ky ys i)) :
    Hole2 ((ys.set pos y).set c x) c := by
  have hn := (List.getElem?_eq_some_iff.mp hx).1
  have hn' := (List.getElem?_eq_some_iff.mp hy).1
  have ey : ky ys c = y.2 := by simp [ky, List.getD_eq_getElem?_getD, hy]
  obtain ⟨h1, h2⟩ := h
  have K : ∀ i, ky ((ys.set pos y).set c x) i = if i = c then x.2 else if i = pos then y.2 else ky ys i := by
    intro i
    rw [ky_set _ _ _ _ (by rw [List.length_set]; exact hn'), ky_set _ _ _ _ hn]
  refine ⟨fun i i0 il ip iq => ?_, fun i i0 il ip p0 => ?_⟩
  · rw [List.length_set, List.length_set] at il
    rw [K, K, if_neg iq, if_neg ip]
    by_cases e1 : i = pos
    · rw [if_pos e1, if_neg (by omega)]
      have := h2 c hc hn' hcp (by omega)
      rw [ey, ← e1] at this; exact this
    · rw [if_neg e1]
      by_cases e2 : (i - 1) / 2 = pos
      · rw [if_pos e2]; exact hl i i0 il e2
      · rw [if_neg e2]; exact h1 i i0 il e1 e2
  · rw [List.length_set, List.length_set] at il
    rw [K, K, hcp, if_neg (by omega), if_pos rfl, if_neg (by omega), if_neg (by omega)]
    have := h1 i i0 il (by omega) (by omega)
    rw [ip, ey] at this; exact this

theorem su_exit {ys : List Itm} {pos : Nat} (h : Hole2 ys pos) (e : ys.length ≤ 2 * pos + 1) : Hole ys pos :=
  ⟨fun i i0 il ip => h.1 i i0 il ip (by omega), fun i i0 il ip p0 => h.2 i i0 il ip p0⟩
theorem su_start {zs : List Itm} {x : Itm} (h : IsHeap zs) (h0 : 0 < zs.length) : Hole2 (zs.set 0 x) 0 := by
  refine ⟨fun i i0 il ip iq => ?_, fun _ _ _ _ p0 => absurd p0 (Nat.lt_irrefl 0)⟩
  rw [List.length_set] at il
  rw [ky_set _ _ _ _ h0, ky_set _ _ _ _ h0, if_neg iq, if_neg ip]
  exact h i i0 il
theorem isHeap_nil : IsHeap [] := fun i _ h => absurd h (Nat.not_lt_zero _)
/-- a heap's last item goes -/
theorem isHeap_dropLast {zs : List Itm} (h : IsHeap zs) : IsHeap zs.dropLast := by
  intro i i0 il
  rw [List.length_dropLast] at il
  have e : ∀ j, j < zs.length - 1 → ky zs.dropLast j = ky zs j := by
    intro j hj
    unfold ky
    rw [List.getD_eq_getElem?_getD, List.getD_eq_getElem?_getD, List.getElem?_dropLast, if_pos hj]
  rw [e _ (by omega), e _ il]
  exact h i i0 (by omega)
/-- an item comes behind a heap -/
theorem hole_append {zs : List Itm} {x : Itm} (h : IsHeap zs) : Hole (zs ++ [x]) zs.length := by
  have e : ∀ j, j < zs.length → ky (zs ++ [x]) j = ky zs j := by
    intro j hj
    unfold ky
    simp [List.getD_eq_getElem?_getD, List.getElem?_append_left hj]
  refine ⟨fun i i0 il ip => ?_, fun i i0 il ip p0 => ?_⟩
  · rw [List.length_append, List.length_singleton] at il
    rw [e _ (by omega), e _ (by omega)]
    exact h i i0 (by omega)
  · rw [List.length_append, List.length_singleton] at il
    omega
/-- the least stands at the top -/
theorem top_least {zs : List Itm} (h : IsHeap zs) : ∀ i, i < zs.length → kle (ky zs 0) (ky zs i) := by
  intro i
  induction i using Nat.strongRecOn with
  | ind i ih =>
    intro il
    by_cases h0 : i = 0
    · subst h0; exact kle_refl _
    · exact kle_trans (ih ((i - 1) / 2) (by omega) (by omega)) (h i (by omega) il)
end Mine
namespace Mine
open PySem.AutoSeq1 (wpAny_loadPart')
open PySem.MeetsSeq PySem.MeetsSeq3

abbrev seqObj (items : Array Value) (n : Nat) : Obj := { cls := .type "list", dict := none, data := .seq items n, slots := #[] }

theorem lt_loop2 (l b : Addr) (items items2 : Array Value) (x y : Key) (t u t' u' : Tok) (n n2 : Nat) (hi : items = #[.int x.1 t, .int x.2 u]) (hj : items2 = #[.int y.1 t', .int y.2 u']) :
    Meets (Builtin.«list.__eq__.loop» ⟨[.ref l, .ref b, rawInt (0 : Nat), rawInt 0], []⟩)
      (fun _ R s => s.heap.get? l = some (seqObj items n) ∧ s.heap.get? b = some (seqObj items2 n2) ∧
        R (.ok (.ret (.bool (klt x y)))) s) := by
  intro prog w A R s h
  obtain ⟨hp, g, d, tk, os⟩ := s; obtain ⟨hl, hb, h⟩ := h
  obtain ⟨x1, x2⟩ := x
  obtain ⟨y1, y2⟩ := y
  have a0 : items[((0 : Nat) : Int).toNat]? = some (.int x1 t) := by rw [hi]; rfl
  have b0 : items2[((0 : Nat) : Int).toNat]? = some (.int y1 t') := by rw [hj]; rfl
  wp_walk using wpAny_loadPart' hl, wpAny_loadPart' hb
  rw [a0, b0]
  refine wpAny_bind (EqGives.int x1 y1 t t' _ _ _ _ _ _ ?_)
  by_cases h1 : x1 = y1
  · have e1 : (x1 == y1) = true := by simp [h1]
    rw [e1]
    wp_walk
    refine ⟨plainId_quiet plain_eq_loop _, codeAny_builtin entry_eq_loop ?_⟩
    rw [Around.under_plainId plain_eq_loop _]
    have c0 : items[(((0 : Nat) : Int) + 1).toNat]? = some (.int x2 u) := by rw [hi]; rfl
    have c1 : items2[(((0 : Nat) : Int) + 1).toNat]? = some (.int y2 u') := by rw [hj]; rfl
    wp_walk using wpAny_loadPart' hl, wpAny_loadPart' hb
    rw [c0, c1]
    refine wpAny_bind (EqGives.int x2 y2 u u' _ _ _ _ _ _ ?_)
    by_cases h2 : x2 = y2
    · have e2 : (x2 == y2) = true := by simp [h2]
      rw [e2]
      wp_walk
      refine ⟨plainId_quiet plain_eq_loop _, codeAny_builtin entry_eq_loop ?_⟩
      rw [Around.under_plainId plain_eq_loop _]
      have c0 : items[(((0 : Nat) : Int) + 1 + 1).toNat]? = none := by rw [hi]; rfl
      have c1 : items2[(((0 : Nat) : Int) + 1 + 1).toNat]? = none := by rw [hj]; rfl
      wp_walk using wpAny_loadPart' hl, wpAny_loadPart' hb
      rw [c0, c1]
      wp_walk using wpAny_loadPart' hl, wpAny_loadPart' hb
      have hk : klt (x1, x2) (y1, y2) = false := by simp [klt, h1, h2]
      rw [hk] at h
      subst hi hj
      exact h
    · have e2 : (x2 == y2) = false := by simp [h2]
      rw [e2]
      wp_walk using wpAny_loadPart' hl, wpAny_loadPart' hb
      rw [c0, c1]
      have hk : klt (x1, x2) (y1, y2) = decide (x2 < y2) := by simp [klt, h1]
      rw [hk] at h
      refine wpAny_bind (show wpAny _ _ (compareOp .Lt (.int x2 u) (.int y2 u')) _ _ _ from lt_int ?_)
      exact wpAny_pure h
  · have e1 : (x1 == y1) = false := by simp [h1]
    have h1' : ¬ y1 = x1 := fun e => h1 e.symm
    rw [e1]
    wp_walk using wpAny_loadPart' hl, wpAny_loadPart' hb
    rw [a0, b0]
    have hk : klt (x1, x2) (y1, y2) = decide (x1 < y1) := by simp [klt, h1, h1']
    rw [hk] at h
    refine wpAny_bind (show wpAny _ _ (compareOp .Lt (.int x1 t) (.int y1 t')) _ _ _ from lt_int ?_)
    exact wpAny_pure h

theorem list_lt2 (l b : Addr) (items items2 : Array Value) (x y : Key) (t u t' u' : Tok) (n n2 : Nat) (hi : items = #[.int x.1 t, .int x.2 u]) (hj : items2 = #[.int y.1 t', .int y.2 u']) :
    Meets (Builtin.«list.__lt__» ⟨[.ref l, .ref b], []⟩)
      (fun _ R s => s.heap.get? l = some (seqObj items n) ∧ s.heap.get? b = some (seqObj items2 n2) ∧
        R (.ok (.ret (.bool (klt x y)))) s) := by
  intro prog w A R s h
  obtain ⟨hp, g, d, tk, os⟩ := s; obtain ⟨hl, hb, h⟩ := h
  have f3 := AutoSeq1.sub_list_list
  wp_walk using wpAny_loadPart' hl, wpAny_loadPart' hb
  exact ⟨plainId_quiet plain_eq_loop _, codeAny_builtin entry_eq_loop (by
    rw [Around.under_plainId plain_eq_loop _]
    exact lt_loop2 l b items items2 x y t u t' u' n n2 hi hj prog w A R _ ⟨hl, hb, h⟩)⟩

theorem gt_loop2 (l b : Addr) (items items2 : Array Value) (x y : Key) (t u t' u' : Tok) (n n2 : Nat) (hi : items = #[.int x.1 t, .int x.2 u]) (hj : items2 = #[.int y.1 t', .int y.2 u']) :
    Meets (Builtin.«list.__eq__.loop» ⟨[.ref l, .ref b, rawInt (0 : Nat), rawInt 4], []⟩)
      (fun _ R s => s.heap.get? l = some (seqObj items n) ∧ s.heap.get? b = some (seqObj items2 n2) ∧
        R (.ok (.ret (.bool (klt y x)))) s) := by
  intro prog w A R s h
  obtain ⟨hp, g, d, tk, os⟩ := s; obtain ⟨hl, hb, h⟩ := h
  obtain ⟨x1, x2⟩ := x
  obtain ⟨y1, y2⟩ := y
  have a0 : items[((0 : Nat) : Int).toNat]? = some (.int x1 t) := by rw [hi]; rfl
  have b0 : items2[((0 : Nat) : Int).toNat]? = some (.int y1 t') := by rw [hj]; rfl
  wp_walk using wpAny_loadPart' hl, wpAny_loadPart' hb
  rw [a0, b0]
  refine wpAny_bind (EqGives.int x1 y1 t t' _ _ _ _ _ _ ?_)
  by_cases h1 : x1 = y1
  · have e1 : (x1 == y1) = true := by simp [h1]
    rw [e1]
    wp_walk
    refine ⟨plainId_quiet plain_eq_loop _, codeAny_builtin entry_eq_loop ?_⟩
    rw [Around.under_plainId plain_eq_loop _]
    have c0 : items[(((0 : Nat) : Int) + 1).toNat]? = some (.int x2 u) := by rw [hi]; rfl
    have c1 : items2[(((0 : Nat) : Int) + 1).toNat]? = some (.int y2 u') := by rw [hj]; rfl
    wp_walk using wpAny_loadPart' hl, wpAny_loadPart' hb
    rw [c0, c1]
    refine wpAny_bind (EqGives.int x2 y2 u u' _ _ _ _ _ _ ?_)
    by_cases h2 : x2 = y2
    · have e2 : (x2 == y2) = true := by simp [h2]
      rw [e2]
      wp_walk
      refine ⟨plainId_quiet plain_eq_loop _, codeAny_builtin entry_eq_loop ?_⟩
      rw [Around.under_plainId plain_eq_loop _]
      have c0 : items[(((0 : Nat) : Int) + 1 + 1).toNat]? = none := by rw [hi]; rfl
      have c1 : items2[(((0 : Nat) : Int) + 1 + 1).toNat]? = none := by rw [hj]; rfl
      wp_walk using wpAny_loadPart' hl, wpAny_loadPart' hb
      rw [c0, c1]
      wp_walk using wpAny_loadPart' hl, wpAny_loadPart' hb
      have hk : klt (y1, y2) (x1, x2) = false := by simp [klt, h1, h2]
      rw [hk] at h
      subst hi hj
      exact h
    · have e2 : (x2 == y2) = false := by simp [h2]
      rw [e2]
      wp_walk using wpAny_loadPart' hl, wpAny_loadPart' hb
      rw [c0, c1]
      have hk : klt (y1, y2) (x1, x2) = decide (y2 < x2) := by simp [klt, h1]
      rw [hk] at h
      refine wpAny_bind (show wpAny _ _ (compareOp .Gt (.int x2 u) (.int y2 u')) _ _ _ from gt_int ?_)
      exact wpAny_pure h
  · have e1 : (x1 == y1) = false := by simp [h1]
    have h1' : ¬ y1 = x1 := fun e => h1 e.symm
    rw [e1]
    wp_walk using wpAny_loadPart' hl, wpAny_loadPart' hb
    rw [a0, b0]
    have hk : klt (y1, y2) (x1, x2) = decide (y1 < x1) := by simp [klt, h1, h1']
    rw [hk] at h
    refine wpAny_bind (show wpAny _ _ (compareOp .Gt (.int x1 t) (.int y1 t')) _ _ _ from gt_int ?_)
    exact wpAny_pure h

theorem list_gt2 (l b : Addr) (items items2 : Array Value) (x y : Key) (t u t' u' : Tok) (n n2 : Nat) (hi : items = #[.int x.1 t, .int x.2 u]) (hj : items2 = #[.int y.1 t', .int y.2 u']) :
    Meets (Builtin.«list.__gt__» ⟨[.ref l, .ref b], []⟩)
      (fun _ R s => s.heap.get? l = some (seqObj items n) ∧ s.heap.get? b = some (seqObj items2 n2) ∧
        R (.ok (.ret (.bool (klt y x)))) s) := by
  intro prog w A R s h
  obtain ⟨hp, g, d, tk, os⟩ := s; obtain ⟨hl, hb, h⟩ := h
  have f3 := AutoSeq1.sub_list_list
  wp_walk using wpAny_loadPart' hl, wpAny_loadPart' hb
  exact ⟨plainId_quiet plain_eq_loop _, codeAny_builtin entry_eq_loop (by
    rw [Around.under_plainId plain_eq_loop _]
    exact gt_loop2 l b items items2 x y t u t' u' n n2 hi hj prog w A R _ ⟨hl, hb, h⟩)⟩

end Mine
namespace Mine

/-- the written part of the top -/
noncomputable abbrev KK (w : World) : Frag := Mine.hd.heap_39 w.params

/-- v is a list of two ints, the key k -/
def PairAt (h : Heap) (v : Value) (k : Key) : Prop := ∃ a t u n, v = .ref a ∧ h.get? a = some (seqObj #[.int k.1 t, .int k.2 u] n)

theorem PairAt.keeps {h h' : Heap} {v : Value} {k : Key} (p : PairAt h v k) (hk : ∀ b o, h.get? b = some o → h'.get? b = some o) : PairAt h' v k := by
  obtain ⟨a, t, u, n, rfl, e⟩ := p
  exact ⟨a, t, u, n, rfl, hk _ _ e⟩

section
variable {prog : Program} {w : World} {A : Around} {E : Value → Shared → Prop} {s : Shared} {Q : Value → Shared → Prop}

theorem typeIs_list {h : Shared} {a : Addr} {items : Array Value} {n : Nat} (e : h.heap.get? a = some (seqObj items n)) : h.TypeIs (.ref a) "list" :=
  (PySem.IsL.isList (n := n) e).typeIs

theorem lt_pair {v v' : Value} {k k' : Key} (p : PairAt s.heap v k) (p' : PairAt s.heap v' k') (hu : A.units < cLine) (h : Q (.bool (klt k k')) s) :
    wpAny (model prog w) A (compareOp .Lt v v') Q E s := by
  obtain ⟨a, t, u, n, rfl, e⟩ := p
  obtain ⟨a', t', u', n', rfl, e'⟩ := p'
  exact richCompare_meets_room (op := .Lt) (typeIs_list e) (typeIs_list e') F.slot_list_lt F.entry_list_lt (F.args_list_lt_2 _ _)
    (list_lt2 a a' _ _ k k' t u t' u' n n' rfl rfl) ⟨e, e', (by intro x; cases x), h⟩ hu

theorem gt_pair {v v' : Value} {k k' : Key} (p : PairAt s.heap v k) (p' : PairAt s.heap v' k') (hu : A.units < cLine) (h : Q (.bool (klt k' k)) s) :
    wpAny (model prog w) A (compareOp .Gt v v') Q E s := by
  obtain ⟨a, t, u, n, rfl, e⟩ := p
  obtain ⟨a', t', u', n', rfl, e'⟩ := p'
  exact richCompare_meets_room (op := .Gt) (typeIs_list e) (typeIs_list e') F.slot_list_gt F.entry_list_gt (F.args_list_gt_2 _ _)
    (list_gt2 a a' _ _ k k' t u t' u' n n' rfl rfl) ⟨e, e', (by intro x; cases x), h⟩ hu

/-- a def is entered: what the call may change is hidden from the base -/
theorem enter_def {name qual : Str} {params : Arguments} {body : List Stmt} {scope : Scope} {dV kV doc pm cdv ct oc : Value} {an od : Option Addr} {osl : Array (Option Value)} {f : Addr} {args : List Value} {binds : List (Str × Value)}
    (hid : List Addr) (X : (KK w).In s.heap) (hlim : s.heap.NoLimit) (hroom : A.depth < recursionLimit)
    (ho : (KK w).lookup f = some ⟨oc, od, .func (fnOf name qual params body scope dV kV doc pm an cdv ct), osl⟩) (hcd : codeIn (KK w) cdv qual = true)
    (hbind : BindsTo s (fnOf name qual params body scope dV kV doc pm an cdv ct) ⟨args, []⟩ binds) (hloc : ∀ y ∈ binds, scope.names.lookup y.1 = some .local)
    (h : ∀ L' h₁ A' tk, (∀ b o, s.heap.get? b = some o → h₁.get? b = some o) → (∀ b o, s.heap.get? b = some o → b ≠ L') → A'.handled = A.handled → A'.depth = A.depth + 1 → A'.units = A.units + 3 → Fr (hideAll s.heap hid) L' h₁ (fun y => binds.reverse.lookup y) →
      wpAny (model prog w) A' (execs body (envOf qual scope L' f cdv))
        (fun fl s' => Q (match fl with | .ret v => v | _ => .none) s') (fun _ _ => False) { s with heap := h₁, toks := tk })
    (hcell : ∀ x ∈ scope.names, x.2 ≠ .cell := by decide)
    (hco : scope.isCoroutine = false := by rfl) (hgen : scope.isGenerator = false := by rfl) (hk : scope.kind = .function := by rfl) :
    wpAny (model prog w) A (call (.ref f) args) Q E s := by
  refine wpAny_call (codeAny_call_def (fd := fnOf name qual params body scope dV kV doc pm an cdv ct) (body := body) (binds := binds) hroom (X _ _ ho) rfl hlim (codeRec_of X hcd) rfl hbind hcell hloc (fun h₁ hns hk₁ => ?_) hco hgen hk)
  exact wpAny_mono (h s.heap.objs.size h₁ _ _ hk₁ (fun b o e => Nat.ne_of_lt (Heap.lt_size e)) rfl rfl rfl ⟨hns, fun b o e => hk₁ b o (of_hideAll _ e), Nat.le_of_eq (hideAll_size _ _)⟩) (fun fl s' x => x) (fun _ _ x => x.elim)

/-- a heap without one object keeps what stands elsewhere -/
theorem hide1_keeps {h h₀ : Heap} {a : Addr} (hst : ∀ b o, h₀.get? b = some o → h.get? b = some o) (ha : h₀.get? a = none) : ∀ b o, h₀.get? b = some o → (hideAll h [a]).get? b = some o := by
  intro b o e
  refine hideAll_get _ (hst b o e) ?_
  intro hm
  rw [List.mem_singleton.mp hm, ha] at e
  cases e
/-- an item of the ledger's first list is stored -/
theorem set_hd {h₀ : Heap} {L a : Addr} {m : Str → Option Value} {vs : List Value} {n : Nat} {k : Int} {t : Tok} {v : Value} {rest : List (Addr × Obj)} {Q : Unit → Shared → Prop} (F : Fr h₀ L s.heap m) (N : News h₀ L s.heap ((a, seqObj vs.toArray n) :: rest)) (hr : ∀ q ∈ rest, q.1 ≠ a)
    (h0 : 0 ≤ k) (hfit : k < 2 ^ 63) (hn : k < vs.length)
    (h : ∀ h', Fr h₀ L h' m → News h₀ L h' ((a, seqObj (vs.set k.toNat v).toArray n) :: rest) → Q () { s with heap := h' }) : wpAny (model prog w) A (setItem (.ref a) (.int k t) v) Q E s := by
  have z := N _ (.head _)
  refine ki_setAt z.1 h0 hfit (by simpa using hn) (h _ (F.change (Heap.SameBut.update ..) z.2.1 z.2.2) ?_)
  refine ki_turn (pre := []) (post := rest) _ N (fun _ h => nomatch h) hr ?_ ?_
  · apply Array.toList_inj.mp; simp
  · simp
theorem append_hd {h₀ : Heap} {L a : Addr} {m : Str → Option Value} {vs : List Value} {n : Nat} {v : Value} {rest : List (Addr × Obj)} {Q : Value → Shared → Prop} (F : Fr h₀ L s.heap m) (N : News h₀ L s.heap ((a, seqObj vs.toArray n) :: rest)) (hr : ∀ q ∈ rest, q.1 ≠ a)
    (hz : vs.length ≤ 1000) (h : ∀ h', Fr h₀ L h' m → News h₀ L h' ((a, seqObj (vs ++ [v]).toArray (n + 1)) :: rest) → Q .none { s with heap := h' }) :
    wpAny (model prog w) A (call (.builtin "list.append") [.ref a, v]) Q E s := by
  refine append_K F N (Upd.head hr) (fun h' F' N' => h h' F' ?_) (by rw [List.size_toArray, sizeLine_eq]; omega)
  have e : vs.toArray.push v = (vs ++ [v]).toArray := by simp
  rw [e] at N'
  exact N'
theorem pop_hd {h₀ : Heap} {L a : Addr} {m : Str → Option Value} {vs : List Value} {n : Nat} {v : Value} {rest : List (Addr × Obj)} {Q : Value → Shared → Prop} (F : Fr h₀ L s.heap m) (N : News h₀ L s.heap ((a, seqObj (vs ++ [v]).toArray n) :: rest)) (hr : ∀ q ∈ rest, q.1 ≠ a)
    (hz : vs.length ≤ 1000) (h : ∀ h', Fr h₀ L h' m → News h₀ L h' ((a, seqObj vs.toArray (n + 1)) :: rest) → Q v { s with heap := h' }) :
    wpAny (model prog w) A (call (.builtin "list.pop") [.ref a]) Q E s := by
  refine kl_pop F N (p := vs) (y := v) (by simpa using kpa_last v vs) (Upd.head hr) (by simp [sizeLine_eq]; omega) h
theorem len_hd {h₀ : Heap} {L a : Addr} {vs : List Value} {n : Nat} {rest : List (Addr × Obj)} {k : Nat} {Q : Value → Shared → Prop} (N : News h₀ L s.heap ((a, seqObj vs.toArray n) :: rest)) (hk : vs.length = k) (hz : k ≤ 1000)
    (h : ∀ t tk, Q (.int k t) { s with toks := tk }) : wpAny (model prog w) A (call (.builtin "len") [.ref a]) Q E s := by
  refine len_list (PySem.IsL.isList (n := n) (N _ (.head _)).1) (by rw [List.size_toArray]; omega) ?_
  rw [List.size_toArray, hk]
  exact h _ _
theorem truthy_hd {h₀ : Heap} {L a : Addr} {vs : List Value} {n : Nat} {rest : List (Addr × Obj)} {Q : Bool → Shared → Prop} (N : News h₀ L s.heap ((a, seqObj vs.toArray n) :: rest)) (hz : vs.length ≤ 1000)
    (h : ∀ tk, Q (!vs.isEmpty) { s with toks := tk }) : wpAny (model prog w) A (truthy (.ref a)) Q E s := by
  refine wpAny_truthy_list (PySem.IsL.isList (n := n) (N _ (.head _)).1) (by rw [List.size_toArray]; omega) ?_
  have e : (!vs.toArray.isEmpty) = !vs.isEmpty := by cases vs <;> rfl
  rw [e]
  exact h _
/-- a method of a list: append -/
theorem call_append {env : Env} {o : PySem.Expr} {args : List PySem.Expr} {apos pos : Pos}
    (hbase : attributeBase o "append" env (eval o env) = eval o env)
    (hfew : ((backTo pos (starEach args env)).all (fun x => !x.1) && (backToKw pos (keywordEach [] env)).all (fun x => x.1.isSome)
      && decide (args.length + ([] : List Keyword).length + (if ([] : List Keyword).isEmpty then 0 else 1) < 30)) = true)
    (hline : (apos.endLine == pos.line) = true)
    (h : wpAny (model prog w) A (eval o env) (fun ov s₁ => (∃ a its n, ov = .ref a ∧ s₁.heap.get? a = some (seqObj its n)) ∧
      wpAny (model prog w) A (callWith pos (.builtin "list.append") [ov] (backTo pos (starEach args env)) []) Q E s₁) E s) :
    wpAny (model prog w) A (eval (.Call (.Attribute o "append" apos) args [] pos) env) Q E s := by
  refine wpAny_Call_method hbase hfew hline F.plainAttrs_list F.slot_list_append F.type_list_append (wpAny_mono h (fun ov s₁ h₁ => ?_) fun _ _ x => x)
  obtain ⟨⟨a, its, n, rfl, e⟩, h₁⟩ := h₁
  exact ⟨typeIs_list e, fun b hb => by cases hb; exact ⟨_, e, rfl⟩, h₁⟩
theorem call_pop {env : Env} {o : PySem.Expr} {args : List PySem.Expr} {apos pos : Pos}
    (hbase : attributeBase o "pop" env (eval o env) = eval o env)
    (hfew : ((backTo pos (starEach args env)).all (fun x => !x.1) && (backToKw pos (keywordEach [] env)).all (fun x => x.1.isSome)
      && decide (args.length + ([] : List Keyword).length + (if ([] : List Keyword).isEmpty then 0 else 1) < 30)) = true)
    (hline : (apos.endLine == pos.line) = true)
    (h : wpAny (model prog w) A (eval o env) (fun ov s₁ => (∃ a its n, ov = .ref a ∧ s₁.heap.get? a = some (seqObj its n)) ∧
      wpAny (model prog w) A (callWith pos (.builtin "list.pop") [ov] (backTo pos (starEach args env)) []) Q E s₁) E s) :
    wpAny (model prog w) A (eval (.Call (.Attribute o "pop" apos) args [] pos) env) Q E s := by
  refine wpAny_Call_method hbase hfew hline F.plainAttrs_list F.slot_list_pop F.type_list_pop (wpAny_mono h (fun ov s₁ h₁ => ?_) fun _ _ x => x)
  obtain ⟨⟨a, its, n, rfl, e⟩, h₁⟩ := h₁
  exact ⟨typeIs_list e, fun b hb => by cases hb; exact ⟨_, e, rfl⟩, h₁⟩

/-- what every call knows of the top -/
structure Cx (w : World) (h : Heap) : Prop where
  X : (KK w).In h
  T : ∃ p loose mg mb, TopRead p loose mg mb h
theorem Cx.keeps {h h' : Heap} (C : Cx w h) (hk : ∀ b o, h.get? b = some o → h'.get? b = some o) : Cx w h' :=
  ⟨C.X.keeps hk, let ⟨p, loose, mg, mb, T⟩ := C.T; ⟨p, loose, mg, mb, T.keeps hk⟩⟩
theorem Cx.nolimit {h : Heap} (C : Cx w h) : h.NoLimit := let ⟨_, _, _, _, T⟩ := C.T; T.nolimit
theorem Cx.hide {h₀ h : Heap} {a : Addr} (C : Cx w h₀) (hst : ∀ b o, h₀.get? b = some o → h.get? b = some o) (ha : h₀.get? a = none) : Cx w (hideAll h [a]) := C.keeps (hide1_keeps hst ha)
theorem Cx.of_hide {h : Heap} {l : List Addr} (C : Cx w (hideAll h l)) : Cx w h := C.keeps fun _ _ e => of_hideAll _ e
/-- a def of the text by its name -/
theorem name_def {h₀ : Heap} {L a : Addr} {m : Str → Option Value} {cn : Str} {cs : Scope} {ccd : Value} {x : Str} {pos : Pos} {v : Value} (F : Fr h₀ L s.heap m) (C : Cx w h₀) (e : nsIn (KK w) mainGlobals x = some (some v)) (h : Q v s)
    (hk : cs.kind = .function := by rfl) (hx : (envOf cn cs L a ccd).kindOf x = some .globalImplicit := by rfl) (hd : (x == ("__debug__" : Str)) = false := by decide) :
    wpAny (model prog w) A (eval (.Name x pos) (envOf cn cs L a ccd)) Q E s := let ⟨_, _, _, _, T⟩ := C.T; name_K F C.X T e h hk hx hd
theorem name_boot {h₀ : Heap} {L a : Addr} {m : Str → Option Value} {cn : Str} {cs : Scope} {ccd : Value} {x : Str} {pos : Pos} {v : Value} (F : Fr h₀ L s.heap m) (C : Cx w h₀) (hv : bootBuiltins x = some v) (e : nsIn (KK w) mainGlobals x = some none) (hn : x ≠ "__name__") (h : Q v s)
    (hk : cs.kind = .function := by rfl) (hx : (envOf cn cs L a ccd).kindOf x = some .globalImplicit := by rfl) (hd : (x == ("__debug__" : Str)) = false := by decide) :
    wpAny (model prog w) A (eval (.Name x pos) (envOf cn cs L a ccd)) Q E s := let ⟨_, _, _, _, T⟩ := C.T; name_B F C.X T e hv hn h hk hx hd
/-- a def of the text is called -/
theorem callWith_fn {h₀ : Heap} {L : Addr} {m : Str → Option Value} {env : Env} {pos : Pos} {f : Addr} {e : PySem.Expr} {rest : List PySem.Expr} (F : Fr h₀ L s.heap m) (C : Cx w h₀) (hk : keepIn (KK w) (.ref f) = true)
    (h : wpAny (model prog w) A (spliced (backTo pos (starEach (e :: rest) env))) (fun vs s₁ => (∃ m', Fr h₀ L s₁.heap m') ∧ wpAny (model prog w) A (call (.ref f) vs) Q E s₁) E s)
    (he : starEach (e :: rest) env = (false, eval e env) :: starEach rest env := by rfl) (hplain : (backTo pos (starEach rest env)).any (·.1) = false := by rfl) :
    wpAny (model prog w) A (callWith pos (.ref f) [] (backTo pos (starEach (e :: rest) env)) []) Q E s :=
  callWith_K C.X hk (wpAny_mono h (fun vs s₁ h₁ => ⟨let ⟨_, F'⟩ := h₁.1; C.X.keeps F'.keep, h₁.2⟩) fun _ _ x => x) he hplain
/-- behind a call that changed one object -/
theorem fr_after {h₀ h h' : Heap} {L a : Addr} {m : Str → Option Value} (F : Fr h₀ L h m) (ha : h₀.get? a = none) (hL : a ≠ L) (hk : ∀ b o, b ≠ a → h.get? b = some o → h'.get? b = some o) : Fr h₀ L h' m := by
  obtain ⟨oL, a1, a2, e, r⟩ := F.ns
  refine ⟨⟨oL, a1, a2, hk _ _ (Ne.symm hL) e, r⟩, fun b o q => hk b o (fun z => ?_) (F.keep b o q), F.above⟩
  rw [z, ha] at q; cases q
theorem news_after {h₀ h h' : Heap} {L a : Addr} {o o' : Obj} {rest : List (Addr × Obj)} (N : News h₀ L h ((a, o) :: rest)) (hr : ∀ q ∈ rest, q.1 ≠ a) (hk : ∀ b o, b ≠ a → h.get? b = some o → h'.get? b = some o) (ho : h'.get? a = some o') : News h₀ L h' ((a, o') :: rest) := by
  intro q hq
  rcases List.mem_cons.mp hq with rfl | hq
  · exact ⟨ho, (N _ (.head _)).2⟩
  · have z := N _ (.tail _ hq)
    exact ⟨hk _ _ (hr q hq) z.1, z.2⟩
/-- a loop has been left: what holds of the frame and the ledger -/
def Out (h₀ : Heap) (L : Addr) (s : Shared) (P : (Str → Option Value) → List (Addr × Obj) → Prop) (s₂ : Shared) : Prop :=
  ∃ h tk m news, s₂ = { s with heap := h, toks := tk } ∧ Fr h₀ L h m ∧ News h₀ L h news ∧ P m news
theorem Out.intro {h₀ h : Heap} {L : Addr} {P : (Str → Option Value) → List (Addr × Obj) → Prop} {tk : Nat} {m : Str → Option Value} {news : List (Addr × Obj)} (F : Fr h₀ L h m) (N : News h₀ L h news) (hP : P m news) : Out h₀ L s P { s with heap := h, toks := tk } :=
  ⟨h, tk, m, news, rfl, F, N, hP⟩
theorem While_to {env : Env} {h₀ : Heap} {L : Addr} {test : PySem.Expr} {body : List Stmt} {pos : Pos} {m : Str → Option Value} {news : List (Addr × Obj)} {Q : Flow → Shared → Prop} (J : Nat → (Str → Option Value) → List (Addr × Obj) → Prop) (P : (Str → Option Value) → List (Addr × Obj) → Prop) (n₀ : Nat)
    (F : Fr h₀ L s.heap m) (N : News h₀ L s.heap news) (hJ : J n₀ m news)
    (turn : ∀ n m₁ news₁ h₁ tk₁, Fr h₀ L h₁ m₁ → News h₀ L h₁ news₁ → J n m₁ news₁ →
      wpAny (model prog w) A (isTrue test env (eval test env)) (fun b s₂ =>
        if b = true then wpAny (model prog w) A (execs body env) (fun f s₃ => match f with
          | .next | .cont => Out h₀ L s (fun m₂ news₂ => ∃ n', n' < n ∧ J n' m₂ news₂) s₃
          | .brk => Out h₀ L s P s₃
          | .ret _ => False) (fun _ _ => False) s₂ else Out h₀ L s P s₂) (fun _ _ => False) { s with heap := h₁, toks := tk₁ })
    (done : ∀ m₁ news₁ h₁ tk₁, Fr h₀ L h₁ m₁ → News h₀ L h₁ news₁ → P m₁ news₁ → Q .next { s with heap := h₁, toks := tk₁ }) :
    wpAny (model prog w) A (exec (.While test body [] pos) env) Q (fun _ _ => False) s := by
  refine While_inv2 J F N hJ (fun n m₁ news₁ h₁ tk₁ F₁ N₁ hJ₁ => ?_) (fun _ _ h => h.elim)
  refine wpAny_mono (turn n m₁ news₁ h₁ tk₁ F₁ N₁ hJ₁) (fun b s₂ h₂ => ?_) (fun _ _ h => h)
  have fin : ∀ s₂, Out h₀ L s P s₂ → Q .next s₂ := by
    rintro s₂ ⟨h, tk, m, news, rfl, F, N, hP⟩
    exact done m news h tk F N hP
  cases b with
  | false => simp only [Bool.false_eq_true, if_false] at h₂ ⊢; exact fin _ h₂
  | true =>
    simp only [if_true] at h₂ ⊢
    refine wpAny_mono h₂ (fun f s₃ h₃ => ?_) (fun _ _ h => h)
    cases f with
    | next => obtain ⟨h, tk, m, news, rfl, F, N, n', hn, hj⟩ := h₃; exact ⟨h, tk, m, news, n', rfl, F, N, hn, hj⟩
    | cont => obtain ⟨h, tk, m, news, rfl, F, N, n', hn, hj⟩ := h₃; exact ⟨h, tk, m, news, n', rfl, F, N, hn, hj⟩
    | brk => exact fin _ h₃
    | ret v => exact h₃.elim
end

end Mine
namespace Mine
/-- a frame whose base may be renewed -/
structure Fq (g : Heap) (L : Addr) (h : Heap) (m : Str → Option Value) : Prop where
  ns : h.Ns L m
  keep : ∀ b o, g.get? b = some o → h.get? b = some o
  off : g.get? L = none
abbrev Up (g g' : Heap) : Prop := ∀ b o, g.get? b = some o → g'.get? b = some o

theorem Fq.of_fr {g h : Heap} {L : Addr} {m : Str → Option Value} (F : Fr g L h m) : Fq g L h m :=
  ⟨F.ns, F.keep, by
    cases e : g.get? L with
    | none => rfl
    | some o => exact absurd (Nat.lt_of_lt_of_le (Heap.lt_size e) F.above) (Nat.lt_irrefl _)⟩
theorem Fq.set {g h h' : Heap} {L : Addr} {m m' : Str → Option Value} (F : Fq g L h m) (hn : h'.Ns L m') (hs : Heap.SameBut L h h') : Fq g L h' m' :=
  ⟨hn, fun b o e => (hs.2 b (fun z => by rw [z, F.off] at e; cases e)).trans (F.keep b o e), F.off⟩
theorem Fq.push {g h : Heap} {L : Addr} {m : Str → Option Value} (F : Fq g L h m) (o : Obj) : Fq g L (h.push o) m := by
  obtain ⟨oL, a1, a2, hL, a3⟩ := F.ns
  exact ⟨⟨oL, a1, a2, Heap.get?_push_of_some _ hL, a3⟩, fun b o' e => Heap.get?_push_of_some _ (F.keep b o' e), F.off⟩
theorem Fq.after {g h h' : Heap} {L a : Addr} {m : Str → Option Value} (F : Fq g L h m) (ha : g.get? a = none) (hL : a ≠ L) (hk : ∀ b o, b ≠ a → h.get? b = some o → h'.get? b = some o) : Fq g L h' m := by
  obtain ⟨oL, a1, a2, e, r⟩ := F.ns
  refine ⟨⟨oL, a1, a2, hk _ _ (Ne.symm hL) e, r⟩, fun b o q => hk b o (fun z => ?_) (F.keep b o q), F.off⟩
  rw [z, ha] at q; cases q
/-- the base anew: all that stands, but the frame and what may change -/
theorem rebase {g h : Heap} {L : Addr} {m : Str → Option Value} {news : List (Addr × Obj)} (F : Fq g L h m) (N : News g L h news) :
    ∃ g', Fq g' L h m ∧ News g' L h news ∧ Up g g' ∧ ∀ b o, h.get? b = some o → b ≠ L → (∀ q ∈ news, q.1 ≠ b) → g'.get? b = some o := by
  have key : ∀ b o, h.get? b = some o → b ≠ L → (∀ q ∈ news, q.1 ≠ b) → (hideAll h (L :: news.map (·.1))).get? b = some o := by
    intro b o e hL hn
    refine hideAll_get _ e (fun hm => ?_)
    rcases List.mem_cons.mp hm with z | z
    · exact hL z
    · obtain ⟨q, hq, z⟩ := List.mem_map.mp z
      exact hn q hq z
  refine ⟨hideAll h (L :: news.map (·.1)), ⟨F.ns, fun b o e => of_hideAll _ e, hideAll_none _ (.head _)⟩, fun q hq => ⟨(N q hq).1, (N q hq).2.1, hideAll_none _ (.tail _ (List.mem_map_of_mem hq))⟩, fun b o e => ?_, key⟩
  refine key b o (F.keep b o e) (fun z => by rw [z, F.off] at e; cases e) (fun q hq z => ?_)
  rw [← z, (N q hq).2.2] at e; cases e
theorem News.pushed {g h : Heap} {L : Addr} {news : List (Addr × Obj)} (N : News g L h news) (o : Obj) : News g L (h.push o) news :=
  fun p hp => ⟨Heap.get?_push_of_some _ (N p hp).1, (N p hp).2⟩
theorem News.sub {g h : Heap} {L : Addr} {news news' : List (Addr × Obj)} (N : News g L h news) (hs : ∀ p ∈ news', p ∈ news) : News g L h news' := fun p hp => N p (hs p hp)

section
variable {prog : Program} {w : World} {A : Around} {E : Value → Shared → Prop} {s : Shared} {g : Heap} {L : Addr} {m : Str → Option Value} {news rest : List (Addr × Obj)}

theorem ldq {env : Env} {x : Str} {pos : Pos} {v : Value} {Q : Value → Shared → Prop} (F : Fq g L s.heap m) (hv : m x = some v) (h : Q v s)
    (hL : env.locals = L := by rfl) (hk : env.scope.kind = .function := by rfl) (hl : env.kindOf x = some .local := by rfl) (hd : (x == ("__debug__" : Str)) = false := by decide) :
    wpAny (model prog w) A (eval (.Name x pos) env) Q E s := wpAny_Name (wpAny_loadName_local hk hl (hL ▸ F.ns) hv h) hd
theorem ldnq {env : Env} {x : Str} {v : Value} {Q : Value → Shared → Prop} (F : Fq g L s.heap m) (hv : m x = some v) (h : Q v s)
    (hL : env.locals = L := by rfl) (hk : env.scope.kind = .function := by rfl) (hl : env.kindOf x = some .local := by rfl) :
    wpAny (model prog w) A (loadName env x) Q E s := wpAny_loadName_local hk hl (hL ▸ F.ns) hv h
theorem stq {env : Env} {x : Str} {v : Value} {Q : Unit → Shared → Prop} (F : Fq g L s.heap m) (N : News g L s.heap news)
    (h : ∀ h', Fq g L h' (fun y => if y = x then some v else m y) → News g L h' news → Q () { s with heap := h', toks := s.toks + 1 })
    (hL : env.locals = L := by rfl) (hk : env.scope.kind = .function := by rfl) (hl : env.kindOf x = some .local := by rfl) :
    wpAny (model prog w) A (storeName env x v) Q E s := by
  subst hL
  exact wpAny_storeName_local hl F.ns (fun h' hn hs => h h' (F.set hn hs) (N.set hs)) (by rw [hk]; rfl)
theorem name_defq {env : Env} {x : Str} {pos : Pos} {v : Value} {Q : Value → Shared → Prop} (F : Fq g L s.heap m) (C : Cx w g) (e : nsIn (KK w) mainGlobals x = some (some v)) (h : Q v s)
    (hk : env.scope.kind = .function := by rfl) (hx : env.kindOf x = some .globalImplicit := by rfl) (hd : (x == ("__debug__" : Str)) = false := by decide) (hgl : env.globals = mainGlobals := by rfl) :
    wpAny (model prog w) A (eval (.Name x pos) env) Q E s := by
  obtain ⟨_, _, _, _, T⟩ := C.T
  exact Calls.Name_function_global hk hx (Calls.loadGlobal_global (hgl ▸ T.g.keeps F.keep) (mg_of C.X T.g e) h) hd
theorem name_bootq {env : Env} {x : Str} {pos : Pos} {v : Value} {Q : Value → Shared → Prop} (F : Fq g L s.heap m) (C : Cx w g) (hv : bootBuiltins x = some v) (e : nsIn (KK w) mainGlobals x = some none) (hn : x ≠ "__name__") (h : Q v s)
    (hk : env.scope.kind = .function := by rfl) (hx : env.kindOf x = some .globalImplicit := by rfl) (hd : (x == ("__debug__" : Str)) = false := by decide) (hgl : env.globals = mainGlobals := by rfl) (hbl : env.builtins = builtinsNs := by rfl) :
    wpAny (model prog w) A (eval (.Name x pos) env) Q E s := by
  obtain ⟨_, _, _, _, T⟩ := C.T
  exact Calls.Name_function_global hk hx (Calls.loadGlobal_builtin (hgl ▸ T.g.keeps F.keep) (mg_none_of C.X T.g e) (hbl ▸ T.b.keeps F.keep) ((T.builtins x hn).trans hv) h) hd
theorem callWith_fnq {env : Env} {pos : Pos} {f : Addr} {e : PySem.Expr} {rest : List PySem.Expr} {Q : Value → Shared → Prop} (C : Cx w g) (hk : keepIn (KK w) (.ref f) = true)
    (h : wpAny (model prog w) A (spliced (backTo pos (starEach (e :: rest) env))) (fun vs s₁ => Up g s₁.heap ∧ wpAny (model prog w) A (call (.ref f) vs) Q E s₁) E s)
    (he : starEach (e :: rest) env = (false, eval e env) :: starEach rest env := by rfl) (hplain : (backTo pos (starEach rest env)).any (·.1) = false := by rfl) :
    wpAny (model prog w) A (callWith pos (.ref f) [] (backTo pos (starEach (e :: rest) env)) []) Q E s :=
  callWith_K C.X hk (wpAny_mono h (fun vs s₁ h₁ => ⟨C.X.keeps h₁.1, h₁.2⟩) fun _ _ x => x) he hplain

/-- a new list that stays as it is -/
theorem newList_q {vs : List Value} {Q : Value → Shared → Prop} (F : Fq g L s.heap m) (N : News g L s.heap news) (hz : vs.length ≤ 1000)
    (h : ∀ a g' h', Fq g' L h' m → News g' L h' news → Up g g' → g'.get? a = some (seqObj vs.toArray 0) → Q (.ref a) { s with heap := h' }) : wpAny (model prog w) A (newList vs) Q E s := by
  refine wpAny_newObj_type ?_ (by show vs.toArray.size ≤ sizeLine; rw [List.size_toArray, sizeLine_eq]; omega)
  obtain ⟨g', F', N', up, new⟩ := rebase (F.push _) (News.pushed N _)
  refine h _ g' _ F' N' up (new _ _ (Heap.get?_push_size _ rfl) ?_ ?_)
  · obtain ⟨oL, _, _, hL, _⟩ := F.ns
    exact Nat.ne_of_gt (Heap.lt_size hL)
  · exact fun q hq => Nat.ne_of_lt (Heap.lt_size (N q hq).1)
abbrev tupObj (items : Array Value) (n : Nat) : Obj := { cls := .type "tuple", dict := none, data := .seq items n, slots := #[] }
theorem newTuple_q {vs : List Value} {Q : Value → Shared → Prop} (F : Fq g L s.heap m) (N : News g L s.heap news) (hz : vs.length ≤ 1000)
    (h : ∀ a g' h', Fq g' L h' m → News g' L h' news → Up g g' → g'.get? a = some (tupObj vs.toArray 0) → Q (.ref a) { s with heap := h' }) : wpAny (model prog w) A (newTuple vs) Q E s := by
  refine wpAny_newObj_type ?_ (by show vs.toArray.size ≤ sizeLine; rw [List.size_toArray, sizeLine_eq]; omega)
  obtain ⟨g', F', N', up, new⟩ := rebase (F.push _) (News.pushed N _)
  refine h _ g' _ F' N' up (new _ _ (Heap.get?_push_size _ rfl) ?_ ?_)
  · obtain ⟨oL, _, _, hL, _⟩ := F.ns
    exact Nat.ne_of_gt (Heap.lt_size hL)
  · exact fun q hq => Nat.ne_of_lt (Heap.lt_size (N q hq).1)
/-- a new list that will change -/
theorem newList_m {vs : List Value} {Q : Value → Shared → Prop} (F : Fq g L s.heap m) (N : News g L s.heap news) (hz : vs.length ≤ 1000)
    (h : ∀ a h', Fq g L h' m → News g L h' ((a, seqObj vs.toArray 0) :: news) → (∀ q ∈ news, q.1 ≠ a) → Q (.ref a) { s with heap := h' }) : wpAny (model prog w) A (newList vs) Q E s := by
  refine wpAny_newObj_type ?_ (by show vs.toArray.size ≤ sizeLine; rw [List.size_toArray, sizeLine_eq]; omega)
  refine h _ _ (F.push _) ?_ (fun q hq => Nat.ne_of_lt (Heap.lt_size (N q hq).1))
  intro q hq
  rcases List.mem_cons.mp hq with rfl | hq
  · refine ⟨Heap.get?_push_size _ rfl, ?_, ?_⟩
    · obtain ⟨oL, _, _, hL, _⟩ := F.ns
      exact Nat.ne_of_gt (Heap.lt_size hL)
    · cases e : g.get? s.heap.objs.size with
      | none => rfl
      | some o => exact absurd (Heap.lt_size (F.keep _ _ e)) (Nat.lt_irrefl _)
  · exact News.pushed N _ q hq
theorem appendq {a : Addr} {vs : List Value} {n : Nat} {v : Value} {Q : Value → Shared → Prop} (F : Fq g L s.heap m) (N : News g L s.heap ((a, seqObj vs.toArray n) :: rest)) (hr : ∀ q ∈ rest, q.1 ≠ a)
    (hz : vs.length ≤ 1000) (h : ∀ h', Fq g L h' m → News g L h' ((a, seqObj (vs ++ [v]).toArray (n + 1)) :: rest) → Q .none { s with heap := h' }) :
    wpAny (model prog w) A (call (.builtin "list.append") [.ref a, v]) Q E s := by
  have z := N _ (.head _)
  refine append_at z.1 (fun h' hs ho => ?_) (by rw [List.size_toArray, sizeLine_eq]; omega)
  have e : vs.toArray.push v = (vs ++ [v]).toArray := by simp
  rw [e] at ho
  have hk : ∀ b o, b ≠ a → s.heap.get? b = some o → h'.get? b = some o := fun b o hb q => (hs.2 b hb).trans q
  exact h h' (F.after z.2.2 z.2.1 hk) (news_after N hr hk ho)

/-- a loop has been left -/
def OutQ (g₀ : Heap) (L : Addr) (s : Shared) (P : Heap → (Str → Option Value) → List (Addr × Obj) → Prop) (s₂ : Shared) : Prop :=
  ∃ g h tk m news, s₂ = { s with heap := h, toks := tk } ∧ Fq g L h m ∧ News g L h news ∧ Up g₀ g ∧ P g m news
theorem OutQ.intro {g₀ g h : Heap} {P : Heap → (Str → Option Value) → List (Addr × Obj) → Prop} {tk : Nat} (F : Fq g L h m) (N : News g L h news) (up : Up g₀ g) (hP : P g m news) : OutQ g₀ L s P { s with heap := h, toks := tk } :=
  ⟨g, h, tk, m, news, rfl, F, N, up, hP⟩
theorem Up.refl (g : Heap) : Up g g := fun _ _ e => e
theorem Up.trans {g g' g'' : Heap} (a : Up g g') (b : Up g' g'') : Up g g'' := fun x o e => b x o (a x o e)

theorem WhileQ {env : Env} {test : PySem.Expr} {body : List Stmt} {pos : Pos} {Q : Flow → Shared → Prop} (J : Nat → Heap → (Str → Option Value) → List (Addr × Obj) → Prop) (P : Heap → (Str → Option Value) → List (Addr × Obj) → Prop) (n₀ : Nat)
    (F : Fq g L s.heap m) (N : News g L s.heap news) (hJ : J n₀ g m news)
    (turn : ∀ n g₁ m₁ news₁ h₁ tk₁, Fq g₁ L h₁ m₁ → News g₁ L h₁ news₁ → Up g g₁ → J n g₁ m₁ news₁ →
      wpAny (model prog w) A (isTrue test env (eval test env)) (fun b s₂ =>
        if b = true then wpAny (model prog w) A (execs body env) (fun f s₃ => match f with
          | .next | .cont => OutQ g L s (fun g₂ m₂ news₂ => ∃ n', n' < n ∧ J n' g₂ m₂ news₂) s₃
          | .brk => OutQ g L s P s₃
          | .ret _ => False) (fun _ _ => False) s₂ else OutQ g L s P s₂) (fun _ _ => False) { s with heap := h₁, toks := tk₁ })
    (done : ∀ g₁ m₁ news₁ h₁ tk₁, Fq g₁ L h₁ m₁ → News g₁ L h₁ news₁ → Up g g₁ → P g₁ m₁ news₁ → Q .next { s with heap := h₁, toks := tk₁ }) :
    wpAny (model prog w) A (exec (.While test body [] pos) env) Q (fun _ _ => False) s := by
  refine wpAny_While (codeAny_whileLoop (fun n s' => ∃ g₁ h₁ tk₁ m₁ news₁, s' = { s with heap := h₁, toks := tk₁ } ∧ Fq g₁ L h₁ m₁ ∧ News g₁ L h₁ news₁ ∧ Up g g₁ ∧ J n g₁ m₁ news₁) ?_ n₀ ⟨g, s.heap, s.toks, m, news, rfl, F, N, Up.refl g, hJ⟩)
  rintro n s' ⟨g₁, h₁, tk₁, m₁, news₁, rfl, F₁, N₁, up, J₁⟩
  refine wpAny_mono (turn n g₁ m₁ news₁ h₁ tk₁ F₁ N₁ up J₁) (fun b s₂ h₂ => ?_) (fun _ _ h => h.elim)
  have fin : ∀ s₂, OutQ g L s P s₂ → Q .next s₂ := by
    rintro s₂ ⟨g₂, h, tk, m, news, rfl, F, N, up, hP⟩
    exact done g₂ m news h tk F N up hP
  cases b with
  | false =>
    simp only [Bool.false_eq_true, if_false] at h₂ ⊢
    exact wpAny_execs_nil (fin _ h₂)
  | true =>
    simp only [if_true] at h₂ ⊢
    refine wpAny_mono h₂ (fun f s₃ h₃ => ?_) (fun _ _ h => h.elim)
    cases f with
    | next => obtain ⟨g₂, h, tk, m, news, rfl, F, N, up, n', hn, hj⟩ := h₃; exact ⟨n', hn, g₂, h, tk, m, news, rfl, F, N, up, hj⟩
    | cont => obtain ⟨g₂, h, tk, m, news, rfl, F, N, up, n', hn, hj⟩ := h₃; exact ⟨n', hn, g₂, h, tk, m, news, rfl, F, N, up, hj⟩
    | brk => exact fin _ h₃
    | ret v => exact h₃.elim
end
end Mine
namespace Mine
section
variable {prog : Program} {w : World} {A : Around} {E : Value → Shared → Prop} {s : Shared} {g : Heap} {L : Addr} {m : Str → Option Value} {news : List (Addr × Obj)}

/-- the loop's own objects stand behind the ledger -/
theorem forLoopQ {env : Env} {x : Str} {px : Pos} {body : List Stmt} {R : Result → Shared → Prop} {I : Addr} {oI : Obj} {fp : List Addr} {n : Nat} {P : Nat → Value → Prop} {St : Nat → Heap → Prop}
    (W : Walks prog w A I fp [I] n P St) (hI : ∀ i h, St i h → ∃ o, h.get? I = some o) (hfp : ∀ b ∈ fp, b = I ∨ ∃ o, g.get? b = some o)
    (J : Nat → Heap → (Str → Option Value) → List (Addr × Obj) → Prop)
    (F : Fq g L s.heap m) (N : News g L s.heap (news ++ [(I, oI)])) (hIn : ∀ q ∈ news, q.1 ≠ I) (hst : St 0 s.heap) (hJ : J 0 g m news)
    (turn : ∀ i v g₁ m₁ news₁ h tk own, i < n → P i v → Fq g₁ L h (fun y => if y = x then some v else m₁ y) → News g₁ L h (news₁ ++ own) → Up g g₁ → news₁.map (·.1) = news.map (·.1) →
      (∀ q ∈ own, ∀ b ∈ news.map (·.1), q.1 ≠ b) → J i g₁ m₁ news₁ →
      wpAny (model prog w) A (execs body env) (fun f s₃ => match f with
        | .next | .cont => OutQ g₁ L s (fun g₂ m₂ l₂ => ∃ news₂, l₂ = news₂ ++ own ∧ news₂.map (·.1) = news.map (·.1) ∧ J (i + 1) g₂ m₂ news₂) s₃
        | _ => False) (fun _ _ => False) { s with heap := h, toks := tk })
    (done : ∀ g₁ m₁ news₁ h tk, Fq g₁ L h m₁ → News g₁ L h news₁ → Up g g₁ → J n g₁ m₁ news₁ → R (.ok .next) { s with heap := h, toks := tk })
    (hL : env.locals = L := by rfl) (hk : env.scope.kind = .function := by rfl) (hl : env.kindOf x = some .local := by rfl) :
    codeAny (model prog w) A (.forLoop (.Name x px) (.ref I) body [] env) R s := by
  refine codeAny_forLoop (fun k s' => ∃ i g₁ h tk m₁ news₁ o, s' = { s with heap := h, toks := tk } ∧ Fq g₁ L h m₁ ∧ News g₁ L h (news₁ ++ [(I, o)]) ∧ Up g g₁ ∧ news₁.map (·.1) = news.map (·.1) ∧ J i g₁ m₁ news₁ ∧ St i h ∧ i ≤ n ∧ k = n + 1 - i) ?_ (n + 1)
    ⟨0, g, s.heap, s.toks, m, news, oI, rfl, F, N, Up.refl g, rfl, hJ, hst, Nat.zero_le _, rfl⟩
  rintro k s' ⟨i, g₁, h, tk, m₁, news₁, o, rfl, F₁, N₁, up, hadr, hJ₁, st, hi, rfl⟩
  have zI := N₁ (I, o) (List.mem_append_right _ (.head _))
  have hne : ∀ q ∈ news₁, q.1 ≠ I := by
    intro q hq z
    have : q.1 ∈ news.map (·.1) := hadr ▸ List.mem_map_of_mem hq
    obtain ⟨q', hq', e⟩ := List.mem_map.mp this
    exact hIn q' hq' (e.trans z)
  by_cases hlt : i < n
  · refine W.item i _ _ _ hlt st fun v h₁ tk₁ hP hst₁ hk₁ => ?_
    have hk₁' : ∀ b o, b ≠ I → h.get? b = some o → h₁.get? b = some o := fun b o hb e => hk₁ b o (fun hm => hb (List.mem_singleton.mp hm)) e
    obtain ⟨o₁, ho₁⟩ := hI _ _ hst₁
    have F₂ := F₁.after zI.2.2 zI.2.1 hk₁'
    have N₂ : News g₁ L h₁ (news₁ ++ [(I, o₁)]) := by
      intro q hq
      rcases List.mem_append.mp hq with hq | hq
      · have z := N₁ q (List.mem_append_left _ hq)
        exact ⟨hk₁' _ _ (hne q hq) z.1, z.2⟩
      · cases List.mem_singleton.mp hq
        exact ⟨ho₁, zI.2⟩
    refine wpAny_assign_Name (stq F₂ N₂ (fun h₂ F₃ N₃ => ?_) hL hk hl)
    refine wpAny_mono (turn i v g₁ m₁ news₁ h₂ _ [(I, o₁)] hlt hP F₃ N₃ up hadr ?_ hJ₁) (fun f s₃ h₃ => ?_) (fun _ _ e => e.elim)
    · intro q hq b hb
      cases List.mem_singleton.mp hq
      obtain ⟨q', hq', e⟩ := List.mem_map.mp hb
      exact fun z => hIn q' hq' (e.trans z.symm)
    · have main : OutQ g₁ L s (fun g₂ m₂ l₂ => ∃ news₂, l₂ = news₂ ++ [(I, o₁)] ∧ news₂.map (·.1) = news.map (·.1) ∧ J (i + 1) g₂ m₂ news₂) s₃ →
          ∃ m, m < n + 1 - i ∧ ∃ i g₁ h tk m₁ news₁ o, s₃ = { s with heap := h, toks := tk } ∧ Fq g₁ L h m₁ ∧ News g₁ L h (news₁ ++ [(I, o)]) ∧ Up g g₁ ∧ news₁.map (·.1) = news.map (·.1) ∧ J i g₁ m₁ news₁ ∧ St i h ∧ i ≤ n ∧ m = n + 1 - i := by
        rintro ⟨g₂, h₄, tk₄, m₄, l₄, rfl, F₄, N₄, up₄, news₄, rfl, hadr₄, hJ₄⟩
        refine ⟨n + 1 - (i + 1), by omega, i + 1, g₂, h₄, tk₄, m₄, news₄, o₁, rfl, F₄, N₄, up.trans up₄, hadr₄, hJ₄, W.frame (i + 1) h₁ h₄ hst₁ (fun b hb o' e => ?_), hlt, rfl⟩
        rcases hfp b hb with rfl | ⟨o'', e''⟩
        · rw [ho₁] at e
          cases e
          exact (N₄ (_, o₁) (List.mem_append_right _ (.head _))).1
        · have e1 := F₂.keep b o'' (up b o'' e'')
          rw [e] at e1
          cases e1
          exact F₄.keep b _ (up₄ b _ (up b _ e''))
      cases f with
      | next => exact main h₃
      | cont => exact main h₃
      | brk => exact h₃.elim
      | ret v => exact h₃.elim
  · have hin : i = n := by omega
    subst hin
    refine W.done _ _ _ st fun h₁ tk₁ hk₁ => wpAny_execs_nil ?_
    have hk₁' : ∀ b o, b ≠ I → h.get? b = some o → h₁.get? b = some o := fun b o hb e => hk₁ b o (fun hm => hb (List.mem_singleton.mp hm)) e
    exact done g₁ m₁ news₁ h₁ tk₁ (F₁.after zI.2.2 zI.2.1 hk₁') (fun q hq => by have z := N₁ q (List.mem_append_left _ hq); exact ⟨hk₁' _ _ (hne q hq) z.1, z.2⟩) up hJ₁

/-- for x in a list that stays as it is -/
theorem iter_listQ {env : Env} {x : Str} {px : Pos} {body : List Stmt} {R : Result → Shared → Prop} {l : Addr} {vs : List Value} {k : Nat} (hh : A.handled = none) (hl' : g.get? l = some (seqObj vs.toArray k))
    (J : Nat → Heap → (Str → Option Value) → List (Addr × Obj) → Prop)
    (F : Fq g L s.heap m) (N : News g L s.heap news) (hJ : J 0 g m news)
    (turn : ∀ i v g₁ m₁ news₁ h tk own, vs[i]? = some v → Fq g₁ L h (fun y => if y = x then some v else m₁ y) → News g₁ L h (news₁ ++ own) → Up g g₁ → news₁.map (·.1) = news.map (·.1) →
      (∀ q ∈ own, ∀ b ∈ news.map (·.1), q.1 ≠ b) → J i g₁ m₁ news₁ →
      wpAny (model prog w) A (execs body env) (fun f s₃ => match f with
        | .next | .cont => OutQ g₁ L s (fun g₂ m₂ l₂ => ∃ news₂, l₂ = news₂ ++ own ∧ news₂.map (·.1) = news.map (·.1) ∧ J (i + 1) g₂ m₂ news₂) s₃
        | _ => False) (fun _ _ => False) { s with heap := h, toks := tk })
    (done : ∀ g₁ m₁ news₁ h tk, Fq g₁ L h m₁ → News g₁ L h news₁ → Up g g₁ → J vs.length g₁ m₁ news₁ → R (.ok .next) { s with heap := h, toks := tk })
    (hL : env.locals = L := by rfl) (hk : env.scope.kind = .function := by rfl) (hl : env.kindOf x = some .local := by rfl) :
    wpAny (model prog w) A (pyIter (.ref l)) (fun it s₂ => codeAny (model prog w) A (.forLoop (.Name x px) it body [] env) R s₂) E s := by
  have hls : s.heap.IsList l vs.toArray := PySem.IsL.isList (n := k) (F.keep _ _ hl')
  refine wpAny_pyIter_list hls ?_
  have hlt : l < s.heap.objs.size := Heap.lt_size (F.keep _ _ hl')
  have W := Walks.list (prog := prog) (w := w) hh s.heap.objs.size l (Nat.ne_of_lt hlt) vs.toArray
  rw [List.size_toArray] at W
  have hnew : g.get? s.heap.objs.size = none := by
    cases e : g.get? s.heap.objs.size with
    | none => rfl
    | some o => exact absurd (Heap.lt_size (F.keep _ _ e)) (Nat.lt_irrefl _)
  have hLI : s.heap.objs.size ≠ L := by
    obtain ⟨oL, _, _, hL, _⟩ := F.ns
    exact Nat.ne_of_gt (Heap.lt_size hL)
  refine forLoopQ (s := { s with heap := s.heap.push _ }) (news := news) (oI := { cls := .type "list_iterator", data := .fields #[.ref l, .int 0 0] }) W (fun i h st => let ⟨o, ho, _⟩ := st.1; ⟨o, ho⟩) ?_ J (F.push _) ?_ (fun q hq => Nat.ne_of_lt (Heap.lt_size (N q hq).1)) ⟨⟨_, Heap.get?_push_size _ rfl, rfl, rfl⟩, hls.at fun o e => Heap.get?_push_of_some _ e⟩ hJ ?_ done hL hk hl
  · intro b hb
    rcases List.mem_cons.mp hb with rfl | hb
    · exact .inl rfl
    · rw [List.mem_singleton.mp hb]; exact .inr ⟨_, hl'⟩
  · intro q hq
    rcases List.mem_append.mp hq with hq | hq
    · exact News.pushed N _ q hq
    · cases List.mem_singleton.mp hq
      exact ⟨Heap.get?_push_size _ rfl, hLI, hnew⟩
  · intro i v g₁ m₁ news₁ h tk own hi hP
    exact turn i v g₁ m₁ news₁ h tk own (by simpa using hP)
end
end Mine
namespace Mine
/-- the items of a ledger's list -/
abbrev lstObj (xs : List Itm) (n : Nat) : Obj := seqObj (xs.map (·.1)).toArray n
/-- v is a tuple of two ints -/
def TupAt (h : Heap) (v : Value) (k : Key) : Prop := ∃ a t u n, v = .ref a ∧ h.get? a = some (tupObj #[.int k.1 t, .int k.2 u] n)
theorem TupAt.keeps {h h' : Heap} {v : Value} {k : Key} (p : TupAt h v k) (hk : Up h h') : TupAt h' v k := by
  obtain ⟨a, t, u, n, rfl, e⟩ := p
  exact ⟨a, t, u, n, rfl, hk _ _ e⟩
section
variable {prog : Program} {w : World} {A : Around} {E : Value → Shared → Prop} {s : Shared} {g : Heap} {L : Addr} {m : Str → Option Value} {news rest : List (Addr × Obj)} {Q : Value → Shared → Prop}

theorem push_q {h : Heap} (F : Fq g L h m) (N : News g L h news) (o : Obj) (hf : o.isFreed = false := by rfl) : ∃ g', Fq g' L (h.push o) m ∧ News g' L (h.push o) news ∧ Up g g' ∧ g'.get? h.objs.size = some o := by
  obtain ⟨g', F', N', up, new⟩ := rebase (F.push o) (News.pushed N o)
  refine ⟨g', F', N', up, new _ _ (Heap.get?_push_size _ hf) ?_ (fun q hq => Nat.ne_of_lt (Heap.lt_size (N q hq).1))⟩
  obtain ⟨oL, _, _, hL, _⟩ := F.ns
  exact Nat.ne_of_gt (Heap.lt_size hL)

theorem add_q {l b : Addr} {vs ws : List Value} {n n2 : Nat} (F : Fq g L s.heap m) (N : News g L s.heap news) (hl : s.heap.get? l = some (seqObj vs.toArray n)) (hb : s.heap.get? b = some (seqObj ws.toArray n2)) (hz : vs.length + ws.length ≤ 1000)
    (h : ∀ a g' h', Fq g' L h' m → News g' L h' news → Up g g' → g'.get? a = some (seqObj (vs ++ ws).toArray 0) → Q (.ref a) { s with heap := h' }) :
    wpAny (model prog w) A (binaryOp .Add (.ref l) (.ref b)) Q E s := by
  have e : vs.toArray ++ ws.toArray = (vs ++ ws).toArray := by simp
  refine concat_meets ⟨_, hl, rfl⟩ ⟨_, hb, rfl⟩ noFill_list_add seq_list_add PySem.F.slot_list_add PySem.F.entry_list_add (PySem.F.args_list_add_2 _ _) (list_addW l b vs.toArray ws.toArray n n2 none none #[] #[] (by simp [sizeLine_eq]; omega)) ⟨hl, hb, ?_⟩
  rw [e]
  obtain ⟨g', F', N', up, new⟩ := push_q F N (seqObj (vs ++ ws).toArray 0)
  exact h _ g' _ F' N' up new

/-- range(lo, hi) -/
theorem range2_q {lo hi : Int} {tl th : Tok} (F : Fq g L s.heap m) (N : News g L s.heap news)
    (h : ∀ r g' h' t u v tk, Fq g' L h' m → News g' L h' news → Up g g' → IsRange g' r lo hi 1 t u v → Q (.ref r) { s with heap := h', toks := tk }) :
    wpAny (model prog w) A (call (.type "range") [.int lo tl, .int hi th]) Q E s := by
  refine call_range_2 ?_
  obtain ⟨g', F', N', up, new⟩ := push_q F N { cls := .type "range", data := .fields #[.int lo tl, .int hi th, .int 1 s.toks] }
  exact h _ g' _ _ _ _ _ F' N' up new
theorem range1_q {hi : Int} {th : Tok} (F : Fq g L s.heap m) (N : News g L s.heap news)
    (h : ∀ r g' h' t u v tk, Fq g' L h' m → News g' L h' news → Up g g' → IsRange g' r 0 hi 1 t u v → Q (.ref r) { s with heap := h', toks := tk }) :
    wpAny (model prog w) A (call (.type "range") [.int hi th]) Q E s := by
  refine call_range_1 ?_
  obtain ⟨g', F', N', up, new⟩ := push_q F N { cls := .type "range", data := .fields #[.int 0 s.toks, .int hi th, .int 1 (s.toks + 1)] }
  exact h _ g' _ _ _ _ _ F' N' up new

/-- for x in range(lo, hi) -/
theorem iter_rangeQ {env : Env} {x : Str} {px : Pos} {body : List Stmt} {R : Result → Shared → Prop} {r : Addr} {lo hi : Int} {t u v : Tok} {n : Nat} (hh : A.handled = none) (hr : IsRange g r lo hi 1 t u v) (hlo : 0 ≤ lo) (hhi : hi < 2 ^ 60) (hn : (n : Int) = hi - lo)
    (J : Nat → Heap → (Str → Option Value) → List (Addr × Obj) → Prop)
    (F : Fq g L s.heap m) (N : News g L s.heap news) (hJ : J 0 g m news)
    (turn : ∀ i t g₁ m₁ news₁ h tk own, i < n → Fq g₁ L h (fun y => if y = x then some (.int (lo + i) t) else m₁ y) → News g₁ L h (news₁ ++ own) → Up g g₁ → news₁.map (·.1) = news.map (·.1) →
      (∀ q ∈ own, ∀ b ∈ news.map (·.1), q.1 ≠ b) → J i g₁ m₁ news₁ →
      wpAny (model prog w) A (execs body env) (fun f s₃ => match f with
        | .next | .cont => OutQ g₁ L s (fun g₂ m₂ l₂ => ∃ news₂, l₂ = news₂ ++ own ∧ news₂.map (·.1) = news.map (·.1) ∧ J (i + 1) g₂ m₂ news₂) s₃
        | _ => False) (fun _ _ => False) { s with heap := h, toks := tk })
    (done : ∀ g₁ m₁ news₁ h tk, Fq g₁ L h m₁ → News g₁ L h news₁ → Up g g₁ → J n g₁ m₁ news₁ → R (.ok .next) { s with heap := h, toks := tk })
    (hL : env.locals = L := by rfl) (hk : env.scope.kind = .function := by rfl) (hl : env.kindOf x = some .local := by rfl) :
    wpAny (model prog w) A (pyIter (.ref r)) (fun it s₂ => codeAny (model prog w) A (.forLoop (.Name x px) it body [] env) R s₂) E s := by
  refine wpAny_pyIter_range (F.keep _ _ hr) (small_one (by omega) (by omega) (by omega) (by omega)) ?_
  have hsz : Builtin.Range.rangeSize lo hi 1 = (n : Int) := by rw [rangeSize_one]; split <;> omega
  have W := Walks.range (prog := prog) (w := w) hh s.heap.objs.size lo 1 n
  have hnew : g.get? s.heap.objs.size = none := by
    cases e : g.get? s.heap.objs.size with
    | none => rfl
    | some o => exact absurd (Heap.lt_size (F.keep _ _ e)) (Nat.lt_irrefl _)
  have hLI : s.heap.objs.size ≠ L := by
    obtain ⟨oL, _, _, hL, _⟩ := F.ns
    exact Nat.ne_of_gt (Heap.lt_size hL)
  refine forLoopQ (s := { s with heap := s.heap.push _ }) (news := news) (oI := { cls := .type "range_iterator", data := .fields #[rawInt lo, rawInt (Builtin.Range.rangeSize lo hi 1), rawInt 1] }) W (fun i h st => ⟨_, st⟩) ?_ J (F.push _) ?_ (fun q hq => Nat.ne_of_lt (Heap.lt_size (N q hq).1)) ?_ hJ ?_ done hL hk hl
  · intro b hb
    exact .inl (List.mem_singleton.mp hb)
  · intro q hq
    rcases List.mem_append.mp hq with hq | hq
    · exact News.pushed N _ q hq
    · cases List.mem_singleton.mp hq
      exact ⟨Heap.get?_push_size _ rfl, hLI, hnew⟩
  · have e1 : (lo + ((0 : Nat) : Int) * 1) = lo := by simp
    have e2 : ((n : Int) - ((0 : Nat) : Int)) = Builtin.Range.rangeSize lo hi 1 := by rw [hsz]; simp
    show IsRangeIter _ _ (lo + ((0 : Nat) : Int) * 1) ((n : Int) - ((0 : Nat) : Int)) 1
    rw [e1, e2]
    exact Heap.get?_push_size _ rfl
  · rintro i v g₁ m₁ news₁ h tk own hi ⟨t, rfl⟩ F₁
    rw [Int.mul_one] at F₁
    exact turn i t g₁ m₁ news₁ h tk own hi F₁

/-- items -/
theorem tupj_q {value slice : PySem.Expr} {h : Heap} {a : Addr} {l : List Value} {n : Nat} {v : Value} {i : Int} {j : Nat} {u : Tok} (e : h.get? a = some (tupObj l.toArray n)) (up : Up h s.heap) (hlo : -(2 ^ 63) ≤ i) (hhi : i < 2 ^ 63) (hj : seqIndex? i l.length = some j) (hx : l[j]? = some v) (hq : Q v s)
    (hs : subscripted slice false (.ref a) (.int i u) = operate [.ref a, .int i u] (getItem (.ref a) (.int i u)) := by with_unfolding_all rfl) :
    wpAny (model prog w) A (subscriptTail value slice (.ref a) (.int i u)) Q E s := by
  have ht : IsTup s.heap a l.toArray := ⟨_, up _ _ e, rfl, n, rfl⟩
  exact tail_any ht.typeIs slot_tuple_getitem.lookup (getItem_tuple ht hlo hhi (by simpa using hj) (by simpa using hx) hq) hs
theorem tup0_q {value slice : PySem.Expr} {h : Heap} {v : Value} {k : Key} {u : Tok} (p : TupAt h v k) (up : Up h s.heap) (hq : ∀ t, Q (.int k.1 t) s)
    (hs : ∀ a, subscripted slice false (.ref a) (.int 0 u) = operate [.ref a, .int 0 u] (getItem (.ref a) (.int 0 u)) := by intro _; with_unfolding_all rfl) :
    wpAny (model prog w) A (subscriptTail value slice v (.int 0 u)) Q E s := by
  obtain ⟨a, t, t', n, rfl, e⟩ := p
  exact tupj_q (l := [.int k.1 t, .int k.2 t']) (j := 0) e up (by decide) (by decide) rfl rfl (hq t) (hs a)
theorem tup1_q {value slice : PySem.Expr} {h : Heap} {v : Value} {k : Key} {u : Tok} (p : TupAt h v k) (up : Up h s.heap) (hq : ∀ t, Q (.int k.2 t) s)
    (hs : ∀ a, subscripted slice false (.ref a) (.int 1 u) = operate [.ref a, .int 1 u] (getItem (.ref a) (.int 1 u)) := by intro _; with_unfolding_all rfl) :
    wpAny (model prog w) A (subscriptTail value slice v (.int 1 u)) Q E s := by
  obtain ⟨a, t, t', n, rfl, e⟩ := p
  exact tupj_q (l := [.int k.1 t, .int k.2 t']) (j := 1) e up (by decide) (by decide) rfl rfl (hq t') (hs a)
theorem lst_q {value slice : PySem.Expr} {a : Addr} {l : List Value} {n : Nat} {v : Value} {i : Int} {u : Tok} (e : s.heap.get? a = some (seqObj l.toArray n)) (h0 : 0 ≤ i) (hfit : i < 2 ^ 63) (hx : l[i.toNat]? = some v) (hq : Q v s)
    (hs : subscripted slice false (.ref a) (.int i u) = operate [.ref a, .int i u] (getItem (.ref a) (.int i u)) := by with_unfolding_all rfl) :
    wpAny (model prog w) A (subscriptTail value slice (.ref a) (.int i u)) Q E s := by
  have hl : s.heap.IsList a l.toArray := PySem.IsL.isList (n := n) e
  exact tail_any hl.typeIs slot_list_getitem.lookup (wpAny_getItem_list hl h0 hfit (by simpa using hx) hq) hs
theorem pair1_q {value slice : PySem.Expr} {h : Heap} {v : Value} {k : Key} {u : Tok} (p : PairAt h v k) (up : Up h s.heap) (hq : ∀ t, Q (.int k.2 t) s)
    (hs : ∀ a, subscripted slice false (.ref a) (.int 1 u) = operate [.ref a, .int 1 u] (getItem (.ref a) (.int 1 u)) := by intro _; with_unfolding_all rfl) :
    wpAny (model prog w) A (subscriptTail value slice v (.int 1 u)) Q E s := by
  obtain ⟨a, t, t', n, rfl, e⟩ := p
  exact lst_q (l := [.int k.1 t, .int k.2 t']) (up _ _ e) (by decide) (by decide) rfl (hq t') (hs a)
/-- an item of a list by its place -/
theorem item_q {α : Type} {value slice : PySem.Expr} {a : Addr} {xs : List (Value × α)} {n : Nat} {i : Int} {u : Tok} {x : Value × α} (e : s.heap.get? a = some (seqObj (xs.map (·.1)).toArray n)) (h0 : 0 ≤ i) (hx : xs[i.toNat]? = some x) (hz : xs.length ≤ 1000) (h : Q x.1 s)
    (hs : subscripted slice false (.ref a) (.int i u) = operate [.ref a, .int i u] (getItem (.ref a) (.int i u)) := by with_unfolding_all rfl) :
    wpAny (model prog w) A (subscriptTail value slice (.ref a) (.int i u)) Q E s :=
  lst_q e h0 (by have := (List.getElem?_eq_some_iff.mp hx).1; omega) (by simp [hx]) h hs
theorem itemLast_q {α : Type} {value slice : PySem.Expr} {a : Addr} {xs : List (Value × α)} {n : Nat} {u : Tok} {x : Value × α} (e : s.heap.get? a = some (seqObj ((xs ++ [x]).map (·.1)).toArray n)) (hz : xs.length ≤ 1000) (h : Q x.1 s)
    (hs : subscripted slice false (.ref a) (.int (-1) u) = operate [.ref a, .int (-1) u] (getItem (.ref a) (.int (-1) u)) := by with_unfolding_all rfl) :
    wpAny (model prog w) A (subscriptTail value slice (.ref a) (.int (-1) u)) Q E s := by
  have hl : s.heap.IsList a ((xs ++ [x]).map (·.1)).toArray := PySem.IsL.isList (n := n) e
  refine tail_any hl.typeIs slot_list_getitem.lookup (wpAny_getItem_list_neg hl (by decide) (by simp; omega) (by decide) ?_ h) hs
  have : ((-1 : Int) + (((xs ++ [x]).map (·.1)).toArray.size : Nat)).toNat = xs.length := by simp; omega
  rw [this]; simp
theorem len_q {a : Addr} {vs : List Value} {n k : Nat} (e : s.heap.get? a = some (seqObj vs.toArray n)) (hk : vs.length = k) (hz : k ≤ 1000)
    (h : ∀ t tk, Q (.int k t) { s with toks := tk }) : wpAny (model prog w) A (call (.builtin "len") [.ref a]) Q E s := by
  refine len_list (PySem.IsL.isList (n := n) e) (by rw [List.size_toArray]; omega) ?_
  rw [List.size_toArray, hk]
  exact h _ _
end
/-- v is a list of pairs -/
def WayAt (g : Heap) (v : Value) (ks : List Key) : Prop := ∃ a xs n, v = .ref a ∧ g.get? a = some (lstObj xs n) ∧ xs.map (·.2) = ks ∧ ∀ x ∈ xs, PairAt g x.1 x.2
theorem WayAt.keeps {h h' : Heap} {v : Value} {k : List Key} (p : WayAt h v k) (hk : Up h h') : WayAt h' v k := by
  obtain ⟨a, xs, n, rfl, e, e2, hp⟩ := p
  exact ⟨a, xs, n, rfl, hk _ _ e, e2, fun x hx => (hp x hx).keeps hk⟩
end Mine
namespace Mine
theorem pick_from (vs : List Value) {x : Int} (h : 0 ≤ x) : slicePick vs.toArray (some x) none none = (vs.drop x.toNat).toArray := by
  have e : sliceBounds (some x) none none vs.toArray.size = (((min x.toNat vs.toArray.size : Nat) : Int), ((vs.toArray.size : Nat) : Int), 1) := by
    simp only [sliceBounds, Option.getD_none, show (1 : Int) > 0 by decide, if_true, if_neg (show ¬ (x < 0) by omega)]
    congr 1
    omega
  rw [kmk_pick_nat _ e]
  show ((vs.drop (min x.toNat vs.toArray.size)).take (vs.toArray.size - min x.toNat vs.toArray.size)).toArray = _
  rw [List.size_toArray, kmk_drop_min, List.take_of_length_le (by rw [List.length_drop]; omega)]

section
variable {prog : Program} {w : World} {A : Around} {E : Value → Shared → Prop} {s : Shared} {g : Heap} {L : Addr} {m : Str → Option Value} {news rest : List (Addr × Obj)} {Q : Value → Shared → Prop}

theorem const_bool {M : Model} {env : Env} {c : Bool} {k : Nat} {pos : Pos} (h : Q (.bool c) s) : wpAny M A (eval (.Constant (.bool c) k pos) env) Q E s := fun _ _ _ => h
theorem eq_pair {h : Heap} {v v' : Value} {k k' : Key} (p : PairAt h v k) (p' : PairAt h v' k') (up : Up h s.heap) (hu : A.units + 64 < cLine) (hq : Q (.bool (decide (k = k'))) s) :
    wpAny (model prog w) A (compareOp .Eq v v') Q E s := by
  obtain ⟨a, t, u, n, rfl, e⟩ := p
  obtain ⟨a', t', u', n', rfl, e'⟩ := p'
  refine eq_intsK (vs := [.int k.1 t, .int k.2 u]) (us := [.int k'.1 t', .int k'.2 u']) (ns := [k.1, k.2]) (ms := [k'.1, k'.2]) (PySem.IsL.isList (n := n) (up _ _ e)) (.cons _ _ (.cons _ _ .nil)) (PySem.IsL.isList (n := n') (up _ _ e')) (.cons _ _ (.cons _ _ .nil)) hu ?_
  have : decide ([k.1, k.2] = [k'.1, k'.2]) = decide (k = k') := by
    obtain ⟨a, b⟩ := k; obtain ⟨c, d⟩ := k'; simp
  rw [this]; exact hq
theorem ne_pair {h : Heap} {v v' : Value} {k k' : Key} (p : PairAt h v k) (p' : PairAt h v' k') (up : Up h s.heap) (hu : A.units + 64 < cLine) (hq : Q (.bool (!decide (k = k'))) s) :
    wpAny (model prog w) A (compareOp .NotEq v v') Q E s := by
  obtain ⟨a, t, u, n, rfl, e⟩ := p
  obtain ⟨a', t', u', n', rfl, e'⟩ := p'
  refine ne_intsK (vs := [.int k.1 t, .int k.2 u]) (us := [.int k'.1 t', .int k'.2 u']) (ns := [k.1, k.2]) (ms := [k'.1, k'.2]) (PySem.IsL.isList (n := n) (up _ _ e)) (.cons _ _ (.cons _ _ .nil)) (PySem.IsL.isList (n := n') (up _ _ e')) (.cons _ _ (.cons _ _ .nil)) hu ?_
  have : decide ([k.1, k.2] = [k'.1, k'.2]) = decide (k = k') := by
    obtain ⟨a, b⟩ := k; obtain ⟨c, d⟩ := k'; simp
  rw [this]; exact hq
/-- a list from a place on -/
theorem slice_q {value slice : PySem.Expr} {l : Addr} {vs : List Value} {n : Nat} {x : Int} {t : Tok} (F : Fq g L s.heap m) (N : News g L s.heap news) (hl : s.heap.get? l = some (seqObj vs.toArray n)) (hx : 0 ≤ x) (hz : vs.length ≤ 1000)
    (h : ∀ D g' h', Fq g' L h' m → News g' L h' news → Up g g' → g'.get? D = some (seqObj (vs.drop x.toNat).toArray 0) → Q (.ref D) { s with heap := h' })
    (hs : subscripted slice false (.ref l) (.ref s.heap.objs.size) = operate [.ref s.heap.objs.size, .ref l] (getItem (.ref l) (.ref s.heap.objs.size)) := by with_unfolding_all rfl)
    (ht : ∀ r, letTemporaryGo value (.ref l) r = pure () := by intro _; with_unfolding_all rfl) :
    wpAny (model prog w) A (subscriptTail value slice (.ref l) (.ref s.heap.objs.size)) Q E { s with heap := s.heap.push { cls := .type "slice", data := .fields #[.int x t, .none, .none] } } := by
  have hl' : s.heap.IsList l vs.toArray := PySem.IsL.isList (n := n) hl
  refine subscriptTail_ops (Heap.IsList.typeIs (s := { s with heap := s.heap.push { cls := .type "slice", data := .fields #[.int x t, .none, .none] } }) (hl'.push _)) list_getitem_lookup
    (wpAny_getItem_list_slice (hl'.push _) (Heap.IsSliceOf.new ..) (.int x t) .none .none (by simp) ?_ (by rw [List.size_toArray, sizeLine_eq]; omega)) hs ht
  rw [pick_from vs hx]
  obtain ⟨g1, F1, N1, up1, _⟩ := push_q F N { cls := .type "slice", data := .fields #[.int x t, .none, .none] }
  obtain ⟨g2, F2, N2, up2, e2⟩ := push_q F1 N1 (seqObj (vs.drop x.toNat).toArray 0)
  exact h _ g2 _ F2 N2 (up1.trans up2) e2

/-- the greatest of a list of pairs: what the loop keeps is the greatest so far -/
theorem max_loopQ {I S l : Addr} {xs : List Itm} {k : Nat} {R : Result → Shared → Prop} (hh : A.handled = none) (hu : A.units + 20 < cLine) (hl : g.get? l = some (lstObj xs k)) (hp : ∀ x ∈ xs, PairAt g x.1 x.2)
    (hgI : g.get? I = none) (hgS : g.get? S = none) (hIS : S ≠ I) :
    ∀ (d j : Nat) (s : Shared) (b : Itm) (c : Nat), xs.length - j = d → j ≤ xs.length → Up g s.heap → s.heap.IsListIter I l j → b ∈ xs → (∀ y ∈ xs.take j, kle y.2 b.2) →
    s.heap.get? S = some (seqObj #[b.1, b.1] c) →
    (∀ v h' tk, v ∈ xs → (∀ y ∈ xs, kle y.2 v.2) → (∀ b o, b ≠ I → b ≠ S → s.heap.get? b = some o → h'.get? b = some o) → R (.ok (.ret v.1)) { s with heap := h', toks := tk }) →
    codeAny (model prog w) A (.builtin "max.loop" ⟨[.ref I, .none, .ref S], []⟩) R s := by
  have hname : (toString "max" ++ toString ".loop" : String) = "max.loop" := by decide
  have hlI : l ≠ I := fun e => by rw [e, hgI] at hl; cases hl
  intro d
  induction d with
  | zero =>
    intro j s b c hk hj up hit hb hbest hS hR
    have hin : j = xs.length := by omega
    have hls : s.heap.IsList l (xs.map (·.1)).toArray := PySem.IsL.isList (n := k) (up _ _ hl)
    refine codeAny_builtin F.entry_max_loop ?_
    rw [Around.under_plainId F.plain_max_loop _]
    show wpAny _ A.in1 (seqItems? (.ref S) >>= _) _ _ s
    refine wpAny_bind (wpAny_seqItems hS rfl ?_)
    show wpAny _ A.in1 (tryCatch (pyNext (.ref I)) _ >>= _) _ _ s
    refine wpAny_bind (wpAny_tryCatch (wpAny_pyNext_list_end (A := A.in1) hh hit hls (by simp [hin]) fun h' he' => ?_))
    have hS' := he' S _ hIS hS
    show wpAny _ A.in1 (updateSeq S (fun _ => #[]) >>= _) _ _ _
    refine wpAny_bind ?_
    refine wpAny_updateSeq hS' rfl (wpAny_bind (wpAny_letGo (wpAny_pure ?_)))
    refine hR b _ _ hb (fun y hy => hbest y (by rw [hin, List.take_of_length_le (Nat.le_refl _)]; exact hy)) fun b o hbw hbS e => (Heap.get?_update_other _ _ (Ne.symm hbS)).trans (he' b o hbw e)
  | succ d ih =>
    intro j s b c hk hj up hit hb hbest hS hR
    have hlt : j < xs.length := by omega
    have hls : s.heap.IsList l (xs.map (·.1)).toArray := PySem.IsL.isList (n := k) (up _ _ hl)
    obtain ⟨x, hx⟩ := at_some hlt
    have hxm := List.mem_of_getElem? hx
    have htake : ∀ y ∈ xs.take (j + 1), y ∈ xs.take j ∨ y = x := by
      intro y hy
      rw [List.take_succ, hx] at hy
      rcases List.mem_append.mp hy with h | h
      · exact .inl h
      · exact .inr (List.mem_singleton.mp h)
    refine codeAny_builtin F.entry_max_loop ?_
    rw [Around.under_plainId F.plain_max_loop _]
    show wpAny _ A.in1 (seqItems? (.ref S) >>= _) _ _ s
    refine wpAny_bind (wpAny_seqItems hS rfl ?_)
    show wpAny _ A.in1 (tryCatch (pyNext (.ref I)) _ >>= _) _ _ s
    refine wpAny_bind (wpAny_tryCatch (wpAny_pyNext_list_item (x := x.1) hit hls (by simp [hx]) fun h' hit' hs' => ?_))
    have up' : Up g h' := fun q o e => hs'.extBut q o (fun z => by rw [z, hgI] at e; cases e) (up q o e)
    have hS' := hs'.extBut S _ hIS hS
    show wpAny _ A.in1 (tryCatch (holding [x.1, x.1] (richCompare .Gt x.1 b.1 >>= _)) _ >>= _) _ _ _
    refine wpAny_bind (wpAny_tryCatch (wpAny_holding (wpAny_bind (show wpAny _ _ (compareOp .Gt x.1 b.1) _ _ _ from gt_pair ((hp x hxm).keeps up') ((hp b hb).keeps up') (by show A.units + 1 < cLine; omega) ?_))))
    refine wpAny_bind (wpAny_holding (wpAny_truthy_bool ?_))
    refine wpAny_bind (wpAny_letGo (wpAny_pure ?_))
    cases hbt : klt b.2 x.2 with
    | true =>
      simp only [if_true]
      refine wpAny_bind ?_
      refine wpAny_updateSeq hS' rfl (wpAny_bind (wpAny_letGo ?_))
      rw [hname]
      have hbx : kle b.2 x.2 := by
        rw [klt_iff] at hbt
        rcases kle_total b.2 x.2 with t | t
        · exact t
        · exact absurd t hbt
      refine wpAny_pure ⟨plainId_quiet F.plain_max_loop _, ih (j + 1) _ x _ (by omega) hlt (fun q o e => ?_) ?_ hxm (fun y hy => ?_) (Heap.get?_update_self _ hS' rfl) fun v' h'' tk'' hv hbest' hk'' => ?_⟩
      · exact (Heap.get?_update_other _ _ (fun z : S = q => by rw [← z, hgS] at e; cases e)).trans (up' q o e)
      · exact hit'.extBut (Heap.SameBut.update _ S _).extBut (Ne.symm hIS)
      · rcases htake y hy with h | h
        · exact kle_trans (hbest y h) hbx
        · rw [h]; exact kle_refl _
      · exact hR v' h'' tk'' hv hbest' fun b o hbw hbS e => hk'' b o hbw hbS ((Heap.get?_update_other _ _ (Ne.symm hbS)).trans (hs'.extBut b o hbw e))
    | false =>
      simp only [Bool.false_eq_true, if_false]
      refine wpAny_bind (wpAny_letGo ?_)
      rw [hname]
      refine wpAny_pure ⟨plainId_quiet F.plain_max_loop _, ih (j + 1) _ b c (by omega) hlt up' hit' hb (fun y hy => ?_) hS' fun v' h'' tk'' hv hbest' hk'' => ?_⟩
      · rcases htake y hy with h | h
        · exact hbest y h
        · rw [h]; exact (klt_false _ _).mp hbt
      · exact hR v' h'' tk'' hv hbest' fun b o hbw hbS e => hk'' b o hbw hbS (hs'.extBut b o hbw e)

/-- max(xs) of a list of pairs -/
theorem max_q {l : Addr} {xs : List Itm} {k : Nat} (hh : A.handled = none) (hu : A.units + 20 < cLine) (Fm : Fq g L s.heap m) (N : News g L s.heap news) (hl : g.get? l = some (lstObj xs k)) (hp : ∀ x ∈ xs, PairAt g x.1 x.2) (hne : 0 < xs.length)
    (h : ∀ v h' tk, v ∈ xs → (∀ y ∈ xs, kle y.2 v.2) → Fq g L h' m → News g L h' news → Q v.1 { s with heap := h', toks := tk }) :
    wpAny (model prog w) A (call (.builtin "max") [.ref l]) Q E s := by
  have hname : (toString "max" ++ toString ".loop" : String) = "max.loop" := by decide
  have hls : s.heap.IsList l (xs.map (·.1)).toArray := PySem.IsL.isList (n := k) (Fm.keep _ _ hl)
  obtain ⟨x, hx⟩ := at_some hne
  have hxm := List.mem_of_getElem? hx
  refine call_function_tree F.kind_max F.plain_max F.entry_max (F.args_max1 _) ?_
  show wpAny _ A.in1 (Builtin.Builtins.bindParams "max" ["key", "default"] 0 ⟨[], []⟩ >>= _) _ _ s
  refine wpAny_bind (wpAny_of_eq (show Builtin.Builtins.bindParams "max" ["key", "default"] 0 ⟨[], []⟩ = pure [none, none] from rfl) ?_)
  refine wpAny_bind (wpAny_pure ?_)
  refine wpAny_bind (wpAny_pyIter_list hls ?_)
  refine wpAny_bind (wpAny_newObj_type ?_)
  rw [hname]
  refine wpAny_pure ⟨plainId_quiet F.plain_max_loop _, ?_⟩
  have new : ∀ b, s.heap.objs.size ≤ b → g.get? b = none := fun b hb => by
    cases e : g.get? b with
    | none => rfl
    | some o => exact absurd (Heap.lt_size (Fm.keep _ _ e)) (Nat.not_lt.mpr hb)
  have hgI := new s.heap.objs.size (Nat.le_refl _)
  have eS : (s.heap.push { cls := .type "list_iterator", data := .fields #[.ref l, .int 0 0] }).objs.size = s.heap.objs.size + 1 := Heap.size_push ..
  have hgS := new (s.heap.objs.size + 1) (Nat.le_succ _)
  show codeAny _ A (.builtin "max.loop" ⟨[.ref s.heap.objs.size, .none, .ref (s.heap.push { cls := .type "list_iterator", data := .fields #[.ref l, .int 0 0] }).objs.size], []⟩) _ _
  rw [eS]
  refine codeAny_builtin F.entry_max_loop ?_
  rw [Around.under_plainId F.plain_max_loop _]
  have hS : ((s.heap.push { cls := .type "list_iterator", data := .fields #[.ref l, .int 0 0] }).push { cls := .type "list", data := .seq #[] }).get? (s.heap.objs.size + 1) = some (seqObj #[] 0) := by rw [← eS]; exact Heap.get?_push_size _ rfl
  have hI0 : ((s.heap.push { cls := .type "list_iterator", data := .fields #[.ref l, .int 0 0] }).push { cls := .type "list", data := .seq #[] }).IsListIter s.heap.objs.size l 0 := ⟨_, Heap.get?_push_of_some _ (Heap.get?_push_size _ rfl), rfl, rfl⟩
  have hl0 : ((s.heap.push { cls := .type "list_iterator", data := .fields #[.ref l, .int 0 0] }).push { cls := .type "list", data := .seq #[] }).IsList l (xs.map (·.1)).toArray := (hls.push _).push _
  show wpAny _ A.in1 (seqItems? (.ref (s.heap.objs.size + 1)) >>= _) _ _ _
  refine wpAny_bind (wpAny_seqItems hS rfl ?_)
  show wpAny _ A.in1 (tryCatch (pyNext (.ref s.heap.objs.size)) _ >>= _) _ _ _
  refine wpAny_bind (wpAny_tryCatch (wpAny_pyNext_list_item (x := x.1) hI0 hl0 (by simp [hx]) fun h' hit' hs' => ?_))
  have hIS : s.heap.objs.size + 1 ≠ s.heap.objs.size := Nat.succ_ne_self _
  have hS' := hs'.extBut (s.heap.objs.size + 1) _ hIS hS
  show wpAny _ A.in1 (updateSeq (s.heap.objs.size + 1) (fun _ => #[x.1, x.1]) >>= _) _ _ _
  refine wpAny_bind ?_
  refine wpAny_updateSeq hS' rfl ?_
  rw [hname]
  refine wpAny_pure ⟨plainId_quiet F.plain_max_loop _, ?_⟩
  have keep1 : ∀ b o, s.heap.get? b = some o → (h'.update (s.heap.objs.size + 1) (Obj.mapSeq fun _ => #[x.1, x.1])).get? b = some o := fun b o e => by
    have hb := Heap.lt_size e
    exact (Heap.get?_update_other _ _ (Nat.ne_of_gt (Nat.lt_succ_of_lt hb))).trans (hs'.extBut b o (Nat.ne_of_lt hb) (Heap.get?_push_of_some _ (Heap.get?_push_of_some _ e)))
  refine max_loopQ hh hu hl hp hgI hgS hIS (xs.length - 1) 1 _ x _ rfl hne (fun b o e => keep1 b o (Fm.keep b o e)) ?_ hxm (fun y hy => ?_) (Heap.get?_update_self _ hS' rfl) fun v h'' tk'' hv hbest hk => ?_
  · exact hit'.extBut (Heap.SameBut.update _ _ _).extBut (Ne.symm hIS)
  · have : xs.take 1 = [x] := by
      cases xs with
      | nil => simp at hx
      | cons a r => simp at hx; subst hx; rfl
    rw [this] at hy
    rw [List.mem_singleton.mp hy]; exact kle_refl _
  · have keep2 : ∀ b o, s.heap.get? b = some o → h''.get? b = some o := fun b o e => hk b o (Nat.ne_of_lt (Heap.lt_size e)) (Nat.ne_of_lt (Nat.lt_succ_of_lt (Heap.lt_size e))) (keep1 b o e)
    obtain ⟨oL, a1, a2, e, r⟩ := Fm.ns
    exact h v h'' tk'' hv hbest ⟨⟨oL, a1, a2, keep2 _ _ e, r⟩, fun b o e => keep2 b o (Fm.keep b o e), Fm.off⟩ (fun q hq => ⟨keep2 _ _ (N q hq).1, (N q hq).2⟩)
end
end Mine
namespace Mine
section
variable {prog : Program} {w : World} {A : Around} {s : Shared} {env : Env}

/-- a name that lies in a cell -/
theorem ld_cell {E : Value → Shared → Prop} {Q : Value → Shared → Prop} {g : Heap} {x : Str} {pos : Pos} {c : Addr} {v : Value} (hc : env.cells.lookup x = some c) (hv : g.IsCell c (some v)) (up : Up g s.heap) (h : Q v s)
    (hk : env.scope.kind = .function := by rfl) (hl : env.kindOf x = some .cell := by rfl) (hd : (x == ("__debug__" : Str)) = false := by decide) :
    wpAny (model prog w) A (eval (.Name x pos) env) Q E s :=
  let ⟨o, e, d⟩ := hv
  wpAny_Name (wpAny_loadName_cell hk hl hc ⟨o, up _ _ e, d⟩ h) hd

/-- the lists and tuples of one heap stand in another -/
def UpS (g g' : Heap) : Prop := ∀ b o xs n, o.data = .seq xs n → g.get? b = some o → g'.get? b = some o

/-- y = [elt for x in range(lo, hi) if test] -/
theorem comp_range {elt iter c : PySem.Expr} {x y : Str} {px py : Pos} {scope : Scope} {cl : List (Str × Addr)} {pos spos : Pos} {Q : Flow → Shared → Prop} {L : Addr}
    (hh : A.handled = none)
    (hsw : swapsWith (.ListComp elt [⟨.Name x px, iter, [c], 0⟩] scope pos) (some (.Name y py)) spos.line env = pure true)
    (hclos : closureFor scope env = pure cl) (hcell : ∀ z ∈ scope.names, z.2 ≠ .cell) (hkind : scope.kind = .function)
    (hnames : ∀ z ∈ scope.names, z.2 = .local → scope.names.lookup z.1 = some .local) (hx : scope.names.lookup x = some .local)
    (hL : env.locals = L) (hy : env.kindOf y = some .local) (hek : env.scope.kind = .function)
    (h : wpAny (model prog w) A (eval iter env) (fun xv s₁ => ∃ (r : Addr) (lo hi : Int) (t u v : Tok) (n : Nat), xv = .ref r ∧ IsRange s₁.heap r lo hi 1 t u v ∧ 0 ≤ lo ∧ hi < 2 ^ 60 ∧ (n : Int) = hi - lo ∧ n ≤ 500 ∧
      ∃ m₀, s₁.heap.Ns L m₀ ∧
      ∃ J : Nat → Heap → List Itm → Prop, J 0 s₁.heap [] ∧ (∀ (i : Nat) g g' items, UpS g g' → J i g items → J i g' items) ∧
      (∀ (i : Nat) t g C D I h tk m items k o, i < n → m x = some (.int (lo + i) t) → Fq g C h m → News g C h [(D, lstObj items k), (I, o)] → Up s₁.heap g → J i g items →
        wpAny (model prog w) A (isTrue c (compEnvC scope cl C env) (eval c (compEnvC scope cl C env))) (fun ok s₃ =>
          if ok = true then wpAny (model prog w) A (eval elt (compEnvC scope cl C env)) (fun z s₄ => ∃ kz, ∃ g' h' tk' m', s₄ = { s₁ with heap := h', toks := tk' } ∧ Fq g' C h' m' ∧ News g' C h' [(D, lstObj items k), (I, o)] ∧ Up g g' ∧ J (i + 1) g' (items ++ [(z, kz)])) (fun _ _ => False) s₃
          else ∃ g' h' tk' m', s₃ = { s₁ with heap := h', toks := tk' } ∧ Fq g' C h' m' ∧ News g' C h' [(D, lstObj items k), (I, o)] ∧ Up g g' ∧ J (i + 1) g' items) (fun _ _ => False) { s₁ with heap := h, toks := tk }) ∧
      (∀ D h' tk items k, (∀ b o, b ≠ L → s₁.heap.get? b = some o → h'.get? b = some o) → s₁.heap.get? D = none → D ≠ L → h'.Ns L (fun z => if z = y then some (.ref D) else m₀ z) → h'.get? D = some (lstObj items k) → J n h' items → Q .next { s₁ with heap := h', toks := tk })) (fun _ _ => False) s)
    (hs : ∀ x, foldedSetIterable iter env x = pure x := by intro _; rfl) :
    wpAny (model prog w) A (exec (.Assign [.Name y py] (.ListComp elt [⟨.Name x px, iter, [c], 0⟩] scope pos) spos) env) Q (fun _ _ => False) s := by
  rw [exec_Assign_Name_used _ _ _ _ hsw]
  refine wpAny_bind (wpAny_standAt (wpAny_bind ?_))
  show wpAny _ A (do let _ ← comprehension (.ListComp elt [⟨.Name x px, iter, [c], 0⟩] scope pos) scope env _ (newList []) false (eval iter env) (some (assign (.Name y py) env))) _ _ s
  refine wpAny_bind (wpAny_mono (wpAny_comprehension_free (use := some (assign (.Name y py) env)) (Q := fun _ s' => Q .next s') (E := fun _ _ => False) rfl hs hclos hkind hnames
    (wpAny_mono h (fun xv s₁ h₁ => ?_) fun _ _ e => e)) (fun _ s' hq => wpAny_pure (wpAny_pure hq)) fun _ _ e => e)
  obtain ⟨r, lo, hi, t, u, v, n, rfl, hr, hlo, hhi, hn, hn5, m₀, hNs, J, hJ0, hmono, turn, done⟩ := h₁
  refine wpAny_pyIter_range hr (small_one (by omega) (by omega) (by omega) (by omega)) ?_
  have hsz : Builtin.Range.rangeSize lo hi 1 = (n : Int) := by rw [rangeSize_one]; split <;> omega
  have W := Walks.range (prog := prog) (w := w) hh s₁.heap.objs.size lo 1 n
  refine wpAny_newObj_type (wpAny_newFunctionEnv hcell (by intro y hy; simp at hy) (fun h₁ hns₁ hsb₁ => ?_) hkind)
  dsimp only at hns₁ hsb₁ ⊢
  have eD : (s₁.heap.push { cls := .type "range_iterator", data := .fields #[rawInt lo, rawInt (Builtin.Range.rangeSize lo hi 1), rawInt 1] }).objs.size = s₁.heap.objs.size + 1 := Heap.size_push ..
  generalize hH1 : s₁.heap.push { cls := .type "range_iterator", data := .fields #[rawInt lo, rawInt (Builtin.Range.rangeSize lo hi 1), rawInt 1] } = H1 at *
  generalize hH2 : H1.push { cls := .type "list", dict := none, data := .seq ([] : List Value).toArray } = H2 at *
  have eC : H2.objs.size = s₁.heap.objs.size + 2 := by rw [← hH2, Heap.size_push, eD]
  have i1 : H1.get? s₁.heap.objs.size = some { cls := .type "range_iterator", data := .fields #[rawInt lo, rawInt (Builtin.Range.rangeSize lo hi 1), rawInt 1] } := by rw [← hH1]; exact Heap.get?_push_size _ rfl
  have i2 := Heap.get?_push_of_some { cls := .type "list", dict := none, data := .seq ([] : List Value).toArray } i1
  rw [hH2] at i2
  have d2 : H2.get? H1.objs.size = some (lstObj [] 0) := by rw [← hH2]; exact Heap.get?_push_size _ rfl
  have nIC : s₁.heap.objs.size ≠ H2.objs.size := by rw [eC]; exact Nat.ne_of_lt (Nat.lt_succ_of_lt (Nat.lt_succ_self _))
  have nDC : H1.objs.size ≠ H2.objs.size := by rw [eC, eD]; exact Nat.ne_of_lt (Nat.lt_succ_self _)
  have nID : s₁.heap.objs.size ≠ H1.objs.size := by rw [eD]; exact Nat.ne_of_lt (Nat.lt_succ_self _)
  have keep₁ : Up s₁.heap h₁ := fun b o e => by
    have hb := Heap.lt_size e
    refine hsb₁.extBut b o (by rw [eC]; exact Nat.ne_of_lt (Nat.lt_succ_of_lt (Nat.lt_succ_of_lt hb))) (Heap.get?_push_of_some _ ?_)
    rw [← hH2]
    refine Heap.get?_push_of_some _ ?_
    rw [← hH1]
    exact Heap.get?_push_of_some _ e
  have hI₁ := hsb₁.extBut _ _ nIC (Heap.get?_push_of_some _ i2)
  have hD₁ := hsb₁.extBut _ _ nDC (Heap.get?_push_of_some _ d2)
  have new : ∀ b, s₁.heap.objs.size ≤ b → s₁.heap.get? b = none := fun b hb => by
    cases e : s₁.heap.get? b with
    | none => rfl
    | some o => exact absurd (Heap.lt_size e) (Nat.not_lt.mpr hb)
  have gI := new s₁.heap.objs.size (Nat.le_refl _)
  have gD := new H1.objs.size (by rw [eD]; exact Nat.le_succ _)
  have gC := new H2.objs.size (by rw [eC]; exact Nat.le_add_right _ _)
  generalize H1.objs.size = D at *
  generalize H2.objs.size = C at *
  generalize hI : s₁.heap.objs.size = I at *
  have hst₁ : IsRangeIter h₁ I (lo + ((0 : Nat) : Int) * 1) ((n : Int) - ((0 : Nat) : Int)) 1 := by
    have e1 : (lo + ((0 : Nat) : Int) * 1) = lo := by simp
    have e2 : ((n : Int) - ((0 : Nat) : Int)) = Builtin.Range.rangeSize lo hi 1 := by rw [hsz]; simp
    rw [e1, e2]; exact hI₁
  obtain ⟨oI, hoI⟩ : ∃ o, h₁.get? I = some o := ⟨_, hI₁⟩
  have N₁ : News s₁.heap C h₁ [(D, lstObj [] 0), (I, oI)] := by
    intro q hq
    rcases List.mem_cons.mp hq with rfl | hq
    · exact ⟨hD₁, nDC, gD⟩
    · cases List.mem_singleton.mp hq
      exact ⟨hoI, nIC, gI⟩
  have hxl : (compEnvC scope cl C env).kindOf x = some .local := lookup_relabel_local hx
  have hkl : (compEnvC scope cl C env).scope.kind = .function := hkind
  have hDI : ∀ o : Obj, ∀ q ∈ [(I, o)], q.1 ≠ D := by
    intro o q hq
    cases List.mem_singleton.mp hq
    exact nID
  have loop : ∀ s₃ : Shared, s₃ = { s₁ with heap := h₁, toks := s₁.toks + ([] : List (Str × Value)).length } →
      codeAny (model prog w) A (.compLoop (.ListComp elt [⟨.Name x px, iter, [c], 0⟩] scope pos) 0 (.ref I) (.ref D) (compEnvC scope cl C env))
        (compPost (model prog w) A (fun _ _ => False) (some (assign (.Name y py) env)) (fun _ s' => Q .next s') (.ref D) C) s₃ := by
    rintro s₃ rfl
    refine codeAny_compLoop_tests (fun k s' => ∃ i g h tk m items ke o, s' = { s₁ with heap := h, toks := tk } ∧ Fq g C h m ∧ News g C h [(D, lstObj items ke), (I, o)] ∧ Up s₁.heap g ∧ J i g items ∧ IsRangeIter h I (lo + (i : Nat) * 1) ((n : Int) - (i : Nat)) 1 ∧ items.length ≤ i ∧ i ≤ n ∧ k = n + 1 - i) ?_ (n + 1)
      ⟨0, s₁.heap, h₁, _, _, [], 0, oI, rfl, ⟨hns₁, keep₁, gC⟩, N₁, Up.refl _, hJ0, hst₁, Nat.le_refl _, Nat.zero_le _, rfl⟩
    rintro k s' ⟨i, g, h, tk, m, items, ke, o, rfl, F, N, up, hJ, hst, hil, hin, rfl⟩
    have zI := N (I, o) (.tail _ (.head _))
    have zD := N (D, lstObj items ke) (.head _)
    by_cases hlt : i < n
    · refine W.item i _ _ _ hlt hst fun v h₂ tk₂ hP hst₂ hk₂ => ?_
      obtain ⟨ti, rfl⟩ := hP
      have hk₂' : ∀ b o, b ≠ I → h.get? b = some o → h₂.get? b = some o := fun b o hb e => hk₂ b o (fun hm => hb (List.mem_singleton.mp hm)) e
      have F₂ := F.after zI.2.2 zI.2.1 hk₂'
      have N₂ : News g C h₂ [(D, lstObj items ke), (I, { cls := .type "range_iterator", dict := none, data := .fields #[rawInt (lo + ((i + 1 : Nat) : Int) * 1), rawInt ((n : Int) - ((i + 1 : Nat) : Int)), rawInt 1], slots := #[] })] := by
        intro q hq
        rcases List.mem_cons.mp hq with rfl | hq
        · exact ⟨hk₂' _ _ (Ne.symm nID) zD.1, zD.2⟩
        · cases List.mem_singleton.mp hq
          exact ⟨hst₂, zI.2⟩
      refine wpAny_assign_Name (stq F₂ N₂ (fun h₃ F₃ N₃ => ?_) rfl hkl hxl)
      refine wpAny_tests_one (wpAny_mono (turn i ti g C D I h₃ _ _ items ke _ hlt (by rw [if_pos rfl, Int.mul_one]) F₃ N₃ up hJ) (fun ok s₄ h₄ => ?_) (fun _ _ e => e.elim))
      cases ok with
      | false =>
        simp only [Bool.false_eq_true, if_false] at h₄ ⊢
        obtain ⟨g', h', tk', m', rfl, F', N', up', hJ'⟩ := h₄
        exact ⟨n + 1 - (i + 1), by omega, i + 1, g', h', tk', m', items, ke, _, rfl, F', N', up.trans up', hJ', (N' _ (.tail _ (.head _))).1, by omega, hlt, rfl⟩
      | true =>
        simp only [if_true] at h₄ ⊢
        refine wpAny_mono h₄ (fun z s₅ h₅ => ?_) (fun _ _ e => e.elim)
        obtain ⟨kz, g', h', tk', m', rfl, F', N', up', hJ'⟩ := h₅
        refine appendq F' N' (hDI _) (by rw [List.length_map]; omega) fun h₆ F₆ N₆ => ?_
        have eN : (items.map (·.1) ++ [z]) = (items ++ [(z, kz)]).map (·.1) := by simp
        rw [eN] at N₆
        refine ⟨n + 1 - (i + 1), by omega, i + 1, g', h₆, tk', m', items ++ [(z, kz)], ke + 1, _, rfl, F₆, N₆, up.trans up', hJ', (N₆ _ (.tail _ (.head _))).1, by rw [List.length_append, List.length_singleton]; omega, hlt, rfl⟩
    · have hin' : i = n := by omega
      subst hin'
      refine W.done _ _ _ hst fun h₂ tk₂ hk₂ => ?_
      have hk₂' : ∀ b o, b ≠ I → h.get? b = some o → h₂.get? b = some o := fun b o hb e => hk₂ b o (fun hm => hb (List.mem_singleton.mp hm)) e
      have F₂ := F.after zI.2.2 zI.2.1 hk₂'
      have hD₂ := hk₂' _ _ (Ne.symm nID) zD.1
      have upI : Up s₁.heap h₂ := fun b o e => F₂.keep _ _ (up _ _ e)
      have nsL := hNs
      obtain ⟨oL, esL, epL, eL, dL, rL⟩ := hNs
      have nLC : L ≠ C := fun z => by rw [z, gC] at eL; cases eL
      have nLD : D ≠ L := fun z => by rw [← z, gD] at eL; cases eL
      show wpAny _ A (assign (.Name y py) env (.ref D)) _ _ _
      subst hL
      refine wpAny_assign_Name (wpAny_storeName_local hy (nsL.keeps upI) (fun h₃ hn₃ hs₃ => ?_) (by rw [hek]; rfl))
      refine ⟨m, F₂.ns.sameBut hs₃ (Ne.symm nLC), fun h₄ hs₄ => ?_⟩
      refine done D h₄ _ items ke (fun b ob hb e => ?_) gD nLD (hn₃.sameBut hs₄ nLC) ?_ (hmono i g h₄ items (fun b ob xs nn hd e => ?_) hJ)
      · refine hs₄.extBut b ob (fun z => by rw [z, gC] at e; cases e) (hs₃.extBut b ob hb (upI _ _ e))
      · exact hs₄.extBut _ _ nDC (hs₃.extBut _ _ nLD hD₂)
      · refine hs₄.extBut b ob (fun z => by rw [z, F.off] at e; cases e) (hs₃.extBut b ob (fun z => ?_) (F₂.keep _ _ e))
        have := up _ _ eL
        rw [← z, e] at this
        cases this
        rw [dL] at hd
        cases hd
  exact codeAny_compStart_list (loop _ rfl) (W.self 0 _ _ _ hst₁ (loop _ rfl))
end
end Mine
namespace Mine
section
variable {prog : Program} {w : World} {A : Around} {E : Value → Shared → Prop} {s : Shared} {Q : Value → Shared → Prop}
/-- a def with cells is entered -/
theorem enter_cells {name qual : Str} {params : Arguments} {body : List Stmt} {scope : Scope} {dV kV doc pm cdv ct oc : Value} {an od : Option Addr} {osl : Array (Option Value)} {f : Addr} {args : List Value} {binds : List (Str × Value)}
    (X : (KK w).In s.heap) (hlim : s.heap.NoLimit) (hroom : A.depth < recursionLimit)
    (ho : (KK w).lookup f = some ⟨oc, od, .func (fnOf name qual params body scope dV kV doc pm an cdv ct), osl⟩) (hcd : codeIn (KK w) cdv qual = true)
    (hbind : BindsTo s (fnOf name qual params body scope dV kV doc pm an cdv ct) ⟨args, []⟩ binds)
    (hkind : (binds.all fun y => scope.names.lookup y.1 == some .local || scope.names.lookup y.1 == some .cell) = true)
    (h : ∀ L' h₁ A' tk, Up s.heap h₁ → A'.handled = A.handled → A'.depth = A.depth + 1 → A'.units = A.units + 3 → Fq s.heap L' h₁ (bindL (envOfC qual scope L' f cdv).kindOf binds fun _ => none) →
      (∀ n c, (cellsFrom (L' + 1) scope.names []).lookup n = some c → h₁.IsCell c (bindC (envOfC qual scope L' f cdv).kindOf binds (fun _ => none) n)) → (∀ b, L' ≤ b → s.heap.get? b = none) →
      wpAny (model prog w) A' (execs body (envOfC qual scope L' f cdv))
        (fun fl s' => Q (match fl with | .ret v => v | _ => .none) s') (fun _ _ => False) { s with heap := h₁, toks := tk })
    (hco : scope.isCoroutine = false := by rfl) (hgen : scope.isGenerator = false := by rfl) (hk : scope.kind = .function := by rfl) :
    wpAny (model prog w) A (call (.ref f) args) Q E s := by
  refine wpAny_call (codeAny_call_function hroom (X _ _ ho) rfl hco hgen rfl (codeRec_of X hcd) (hbind _ _ _ _ ?_))
  refine wpAny_newFunctionEnv_cells hk (kindsX hkind _) fun env' he s' x => ?_
  subst he
  refine ⟨hlim.keeps x.toInCall.keep, codeAny_func ?_⟩
  obtain ⟨h₁, tk, rfl, _⟩ := x.done
  have hk₁ := x.toInCall.keep
  have new : ∀ b, s.heap.objs.size ≤ b → s.heap.get? b = none := fun b hb => by
    cases e : s.heap.get? b with
    | none => rfl
    | some o => exact absurd (Heap.lt_size e) (Nat.not_lt.mpr hb)
  exact wpAny_mono (h s.heap.objs.size h₁ _ tk hk₁ rfl rfl rfl ⟨x.toInCall.ns, hk₁, new _ (Nat.le_refl _)⟩ (fun n c hm => x.cell n c hm) new) (fun fl s' y => y) (fun _ _ y => y.elim)
end
end Mine
namespace Mine
section
variable {prog : Program} {w : World} {A : Around} {E : Value → Shared → Prop} {s : Shared} {env : Env} {g : Heap} {L : Addr} {m : Str → Option Value} {rest : List (Addr × Obj)}
/-- a name that lies in a cell is stored -/
theorem st_cell {x : Str} {c : Addr} {o : Obj} {v₀ : Option Value} {v : Value} {Q : Unit → Shared → Prop} (F : Fq g L s.heap m) (N : News g L s.heap ((c, o) :: rest)) (hr : ∀ q ∈ rest, q.1 ≠ c) (hd : o.data = .cell v₀) (hc : env.cells.lookup x = some c)
    (h : ∀ h' o', o'.data = .cell (some v) → Fq g L h' m → News g L h' ((c, o') :: rest) → Q () { s with heap := h' })
    (hk : env.scope.kind = .function := by rfl) (hl : env.kindOf x = some .cell := by rfl) :
    wpAny (model prog w) A (storeName env x v) Q E s := by
  have z := N _ (.head _)
  refine wpAny_storeName_cell hk hl hc ⟨o, z.1, hd⟩ fun h' hv hs => ?_
  obtain ⟨o', ho', hd'⟩ := hv
  have hkp : ∀ b o, b ≠ c → s.heap.get? b = some o → h'.get? b = some o := fun b o hb e => hs.extBut b o hb e
  exact h h' o' hd' (F.after z.2.2 z.2.1 hkp) (news_after N hr hkp ho')
end
end Mine
namespace Mine
/-- each node hangs on an earlier one -/
def TreeOk (nd : List Key) : Prop := ∀ i, 1 ≤ i → i < nd.length → 0 ≤ (nd.getD i default).1 ∧ (nd.getD i default).1 < i
def keyOf (nd : List Key) (i : Nat) : Key := if i = 0 then (0, 0) else ((nd.getD i default).2, (i : Int))
def parent (nd : List Key) (i : Nat) : Nat := (nd.getD i default).1.toNat
theorem keyOf_snd (nd : List Key) (i : Nat) : (keyOf nd i).2 = (i : Int) := by
  unfold keyOf; split
  · rename_i h; subst h; rfl
  · rfl
theorem keyOf_inj {nd : List Key} {i j : Nat} (h : keyOf nd i = keyOf nd j) : i = j := by
  have := congrArg Prod.snd h
  rw [keyOf_snd, keyOf_snd] at this
  omega
/-- the nodes that hang on t -/
def kidsN (nd : List Key) (t : Int) : Nat → List Key
  | 0 => []
  | i + 1 => if (nd.getD (i + 1) default).1 = t then kidsN nd t i ++ [((nd.getD (i + 1) default).2, ((i + 1 : Nat) : Int))] else kidsN nd t i
theorem mem_kidsN {nd : List Key} {t : Int} {k : Key} : ∀ n, k ∈ kidsN nd t n ↔ ∃ i, 1 ≤ i ∧ i ≤ n ∧ (nd.getD i default).1 = t ∧ k = keyOf nd i
  | 0 => by
    constructor
    · intro h; simp [kidsN] at h
    · rintro ⟨i, h1, h2, _⟩; omega
  | n + 1 => by
    have ih := mem_kidsN (nd := nd) (t := t) (k := k) n
    have e : keyOf nd (n + 1) = ((nd.getD (n + 1) default).2, ((n + 1 : Nat) : Int)) := by simp [keyOf]
    unfold kidsN
    split
    · rename_i ht
      rw [List.mem_append, ih, List.mem_singleton, ← e]
      constructor
      · rintro (⟨i, h1, h2, h3, h4⟩ | h)
        · exact ⟨i, h1, by omega, h3, h4⟩
        · exact ⟨n + 1, by omega, by omega, ht, h⟩
      · rintro ⟨i, h1, h2, h3, h4⟩
        by_cases hi : i = n + 1
        · subst hi; exact .inr h4
        · exact .inl ⟨i, h1, by omega, h3, h4⟩
    · rename_i ht
      rw [ih]
      constructor
      · rintro ⟨i, h1, h2, h3, h4⟩; exact ⟨i, h1, by omega, h3, h4⟩
      · rintro ⟨i, h1, h2, h3, h4⟩
        by_cases hi : i = n + 1
        · subst hi; exact absurd h3 ht
        · exact ⟨i, h1, by omega, h3, h4⟩
theorem kidsN_nodup (nd : List Key) (t : Int) : ∀ n, (kidsN nd t n).Nodup
  | 0 => by simp [kidsN]
  | n + 1 => by
    have ih := kidsN_nodup nd t n
    have e : keyOf nd (n + 1) = ((nd.getD (n + 1) default).2, ((n + 1 : Nat) : Int)) := by simp [keyOf]
    unfold kidsN
    split
    · rw [← e, List.nodup_append]
      refine ⟨ih, by simp, fun a ha b hb => ?_⟩
      cases List.mem_singleton.mp hb
      obtain ⟨i, _, h2, _, rfl⟩ := (mem_kidsN n).mp ha
      intro h
      have := keyOf_inj h
      omega
    · exact ih
theorem kidsN_length (nd : List Key) (t : Int) : ∀ n, (kidsN nd t n).length ≤ n
  | 0 => by simp [kidsN]
  | n + 1 => by
    have ih := kidsN_length nd t n
    unfold kidsN
    split
    · rw [List.length_append, List.length_singleton]; omega
    · omega
abbrev kids (nd : List Key) (t : Int) : List Key := kidsN nd t (nd.length - 1)

/-- what holds of the heap (H) and the order so far (O) -/
structure WInv (nd : List Key) (H O : List Key) : Prop where
  key : ∀ k ∈ O ++ H, ∃ i, i < nd.length ∧ k = keyOf nd i
  nodup : (O ++ H).Nodup
  root : keyOf nd 0 ∈ O ++ H
  child : ∀ i, 1 ≤ i → i < nd.length → (keyOf nd i ∈ O ++ H ↔ keyOf nd (parent nd i) ∈ O)
  least : ∀ p y, O[p]? = some y → ∀ i, i < nd.length → keyOf nd i ∉ O.take p → (i = 0 ∨ keyOf nd (parent nd i) ∈ O.take p) → kle y (keyOf nd i)
  order : ∀ p i, 1 ≤ i → i < nd.length → O[p]? = some (keyOf nd i) → keyOf nd (parent nd i) ∈ O.take p

theorem WInv.start {nd : List Key} (h : 1 ≤ nd.length) : WInv nd [(0, 0)] [] where
  key := fun k hk => ⟨0, by omega, by simpa [keyOf] using hk⟩
  nodup := by simp
  root := by simp [keyOf]
  child := fun i h1 _ => by
    constructor
    · intro hm
      have : keyOf nd i = keyOf nd 0 := by simpa [keyOf] using hm
      have := keyOf_inj this
      omega
    · intro hm; simp at hm
  least := fun p y h => by simp at h
  order := fun p i _ _ h => by simp at h

theorem WInv.step {nd : List Key} {H O R H' : List Key} {y : Key} (I : WInv nd H O) (ok : TreeOk nd) (hp : H.Perm (y :: R)) (hl : ∀ z ∈ H, kle y z) (hp' : H'.Perm (R ++ kids nd y.2)) : WInv nd H' (O ++ [y]) := by
  have hyH : y ∈ H := hp.mem_iff.mpr (.head _)
  obtain ⟨t, ht, rfl⟩ := I.key y (List.mem_append_right _ hyH)
  rw [keyOf_snd] at hp'
  have mH : ∀ k, k ∈ H ↔ k = keyOf nd t ∨ k ∈ R := fun k => by rw [hp.mem_iff, List.mem_cons]
  have mH' : ∀ k, k ∈ H' ↔ k ∈ R ∨ k ∈ kids nd t := fun k => by rw [hp'.mem_iff, List.mem_append]
  have mK : ∀ i, 1 ≤ i → i < nd.length → (keyOf nd i ∈ kids nd (t : Int) ↔ parent nd i = t) := by
    intro i h1 h2
    have o := ok i h1 h2
    rw [mem_kidsN]
    constructor
    · rintro ⟨j, _, _, h3, h4⟩
      have := keyOf_inj h4
      subst this
      unfold parent; omega
    · intro h
      exact ⟨i, h1, by omega, by unfold parent at h; omega, rfl⟩
  have hyO : keyOf nd t ∉ O := by
    intro hm
    have := List.nodup_append.mp I.nodup
    exact this.2.2 _ hm _ hyH rfl
  have all : ∀ k, k ∈ (O ++ [keyOf nd t]) ++ H' ↔ k ∈ O ++ H ∨ k ∈ kids nd (t : Int) := by
    intro k
    simp only [List.mem_append, List.mem_singleton, mH, mH']
    constructor
    · rintro ((h | h) | h | h)
      · exact .inl (.inl h)
      · exact .inl (.inr (.inl h))
      · exact .inl (.inr (.inr h))
      · exact .inr h
    · rintro ((h | h | h) | h)
      · exact .inl (.inl h)
      · exact .inl (.inr h)
      · exact .inr (.inl h)
      · exact .inr (.inr h)
  have kidsKey : ∀ k ∈ kids nd (t : Int), ∃ i, 1 ≤ i ∧ i < nd.length ∧ k = keyOf nd i ∧ parent nd i = t := by
    intro k hk
    obtain ⟨i, h1, h2, h3, rfl⟩ := (mem_kidsN _).mp hk
    exact ⟨i, h1, by omega, rfl, by unfold parent; omega⟩
  refine ⟨fun k hk => ?_, ?_, ?_, fun i h1 h2 => ?_, fun p z hz i hi hn hpar => ?_, fun p i h1 h2 hz => ?_⟩
  · rcases (all k).mp hk with h | h
    · exact I.key k h
    · obtain ⟨i, _, h2, h3, _⟩ := kidsKey k h
      exact ⟨i, h2, h3⟩
  · have pm : ((O ++ [keyOf nd t]) ++ H').Perm ((O ++ H) ++ kids nd (t : Int)) := by
      rw [List.append_assoc, List.append_assoc]
      refine List.Perm.append_left O ?_
      show ([keyOf nd t] ++ H').Perm (H ++ kids nd (t : Int))
      refine (List.Perm.append_left [keyOf nd t] hp').trans ?_
      rw [← List.append_assoc]
      exact (hp.symm).append_right _
    rw [pm.nodup_iff, List.nodup_append]
    refine ⟨I.nodup, kidsN_nodup _ _ _, fun a ha b hb hab => ?_⟩
    subst hab
    obtain ⟨i, h1, h2, rfl, hpi⟩ := kidsKey a hb
    have := (I.child i h1 h2).mp ha
    rw [hpi] at this
    exact hyO this
  · exact (all _).mpr (.inl I.root)
  · rw [all, I.child i h1 h2, mK i h1 h2, List.mem_append, List.mem_singleton]
    constructor
    · rintro (h | h)
      · exact .inl h
      · exact .inr (by rw [h])
    · rintro (h | h)
      · exact .inl h
      · exact .inr (keyOf_inj h)
  · by_cases hpO : p < O.length
    · rw [List.getElem?_append_left hpO] at hz
      rw [List.take_append_of_le_length (by omega)] at hn hpar
      exact I.least p z hz i hi hn hpar
    · have hpe : p = O.length := by
        have := (List.getElem?_eq_some_iff.mp hz).1
        rw [List.length_append, List.length_singleton] at this
        omega
      subst hpe
      rw [List.take_append_of_le_length (Nat.le_refl _), List.take_length] at hn hpar
      have hzy : keyOf nd t = z := by simpa using hz
      subst hzy
      have hm : keyOf nd i ∈ O ++ H := by
        rcases hpar with h | h
        · subst h; exact I.root
        · by_cases h0 : i = 0
          · subst h0; exact I.root
          · exact (I.child i (by omega) hi).mpr h
      rcases List.mem_append.mp hm with h | h
      · exact absurd h hn
      · exact hl _ h
  · by_cases hpO : p < O.length
    · rw [List.getElem?_append_left hpO] at hz
      rw [List.take_append_of_le_length (by omega)]
      exact I.order p i h1 h2 hz
    · have hpe : p = O.length := by
        have := (List.getElem?_eq_some_iff.mp hz).1
        rw [List.length_append, List.length_singleton] at this
        omega
      subst hpe
      rw [List.take_append_of_le_length (Nat.le_refl _), List.take_length]
      have hzy : keyOf nd t = keyOf nd i := by simpa using hz
      rw [hzy] at hyH
      exact (I.child i h1 h2).mp (List.mem_append_right _ hyH)
end Mine
namespace Mine
theorem pigeon : ∀ (n : Nat) (l : List Nat), l.Nodup → (∀ x ∈ l, x < n) → l.length ≤ n
  | 0, l, _, h => by
    cases l with
    | nil => exact Nat.le_refl _
    | cons a r => exact absurd (h a (.head _)) (Nat.not_lt_zero _)
  | n + 1, l, nd, h => by
    have ih := pigeon n (l.erase n) (nd.erase n) (fun x hx => by
      have := (List.Nodup.mem_erase_iff nd).mp hx
      have := h x this.2
      omega)
    have : l.length ≤ (l.erase n).length + 1 := by
      rw [List.length_erase]
      split <;> omega
    omega
theorem WInv.few {nd H O : List Key} (I : WInv nd H O) : O.length + H.length ≤ nd.length := by
  have h1 : ((O ++ H).map (fun k => k.2.toNat)).Nodup := by
    rw [List.nodup_iff_pairwise_ne, List.pairwise_map]
    refine (List.nodup_iff_pairwise_ne.mp I.nodup).imp_of_mem ?_
    intro a b ha hb hab e
    obtain ⟨i, _, rfl⟩ := I.key a ha
    obtain ⟨j, _, rfl⟩ := I.key b hb
    rw [keyOf_snd, keyOf_snd] at e
    exact hab (by rw [show i = j by omega])
  have h2 := pigeon nd.length _ h1 (fun x hx => by
    obtain ⟨k, hk, rfl⟩ := List.mem_map.mp hx
    obtain ⟨i, hi, rfl⟩ := I.key k hk
    rw [keyOf_snd]; omega)
  rw [List.length_map, List.length_append] at h2
  exact h2
end Mine
local macro_rules | `(tactic| walk_at "hplook") => `(tactic| first | assumption | exact if_pos rfl | (refine Eq.trans (if_neg (by decide)) ?_; walk_at "hplook") | rfl)
local macro_rules | `(tactic| walk_at "hpname") => `(tactic| first
  | refine ld (by assumption) (by walk_at "hplook") ?_
  | refine Mine.name_def (by assumption) (by assumption) rfl ?_
  | refine Mine.name_boot (by assumption) (by assumption) PyProof.Rows.Boot.len rfl (by decide) ?_
  | refine Mine.name_boot (by assumption) (by assumption) PyProof.Rows.Boot.range rfl (by decide) ?_
  | refine Mine.name_boot (by assumption) (by assumption) PyProof.Rows.Boot.max rfl (by decide) ?_
  | refine Mine.name_boot (by assumption) (by assumption) PyProof.Rows.Boot.sorted rfl (by decide) ?_
  | refine Mine.name_boot (by assumption) (by assumption) PyProof.Rows.Boot.list rfl (by decide) ?_
  | refine Mine.name_boot (by assumption) (by assumption) PyProof.Rows.Boot.enumerate rfl (by decide) ?_)
local macro_rules | `(tactic| walk_at "hp") => `(tactic| first
  | with_reducible refine wpAny_execs_cons ?_
  | with_reducible refine wpAny_execs_nil ?_
  | ((with_reducible show wpAny _ _ (exec (Stmt.Assign [Expr.Name _ _] _ _) _) _ _ _); refine wpAny_Assign_Name ?_)
  | ((with_reducible show wpAny _ _ (exec (Stmt.Assign [Expr.Subscript _ _ _] _ _) _) _ _ _); refine wpAny_Assign_Subscript ?_)
  | ((with_reducible show wpAny _ _ (exec (Stmt.Expr _ _) _) _ _ _); refine wpAny_Expr_any ?_)
  | with_reducible refine wpAny_Return_some ?_
  | with_reducible refine wpAny_Continue ?_
  | with_reducible refine wpAny_Break ?_
  | with_reducible refine wpAny_Constant_int ?_
  | with_reducible refine wpAny_BinOp ?_
  | ((with_reducible show wpAny _ _ (isTrue (Expr.Compare _ [_] [_] _) _ _) _ _ _); refine wpAny_isTrue_Compare1 ?_)
  | ((with_reducible show wpAny _ _ (eval (Expr.Compare _ [_] [_] _) _) _ _ _); refine wpAny_Compare1 ?_)
  | with_reducible refine isTrue_and_nil ?_
  | with_reducible refine isTrue_and ?_
  | with_reducible refine isTrue_not ?_
  | ((with_reducible show wpAny _ _ (isTrue (Expr.Name _ _) _ _) _ _ _); refine isTrue_plain ?_)
  | with_reducible refine Subscript_ ?_
  | ((with_reducible show wpAny _ _ (eval (Expr.Name _ _) _) _ _ _); walk_at "hpname")
  | ((with_reducible show wpAny _ _ (eval (Expr.Call (Expr.Name _ _) _ _ _) _) _ _ _); refine PyProof.Rows.Call_ ?_)
  | ((with_reducible show wpAny _ _ (callWith _ (Value.builtin _) _ _ _) _ _ _); refine PyProof.Rows.callWith_builtin1 ?_)
  | ((with_reducible show wpAny _ _ (callWith _ (Value.ref _) _ _ _) _ _ _); refine Mine.callWith_fn (by assumption) (by assumption) rfl ?_)
  | ((with_reducible show wpAny _ _ (spliced (backTo _ (starEach [] _))) _ _ _); refine PyProof.Rows.args_nil ?_)
  | ((with_reducible show wpAny _ _ (spliced (backTo _ (starEach (_ :: _) _))) _ _ _); refine PyProof.Rows.args_cons ?_)
  | ((with_reducible show wpAny _ _ (storeName _ _ _) _ _ _); refine stN (by assumption) (by assumption) ?_; intro h' F' N')
  | with_reducible refine lt_int ?_
  | with_reducible refine gt_int ?_
  | with_reducible refine add_int ?_
  | with_reducible refine sub_int ?_
  | with_reducible refine wpAny_truthy_bool ?_
  | ((with_reducible show (if true = true then _ else _)); refine (if_pos rfl).mpr ?_)
  | ((with_reducible show (if false = true then _ else _)); refine (if_neg Bool.false_ne_true).mpr ?_))

local macro_rules | `(tactic| walk_at "hqname") => `(tactic| first
  | refine Mine.ldq (by assumption) (by walk_at "hplook") ?_
  | refine Mine.name_defq (by assumption) (by assumption) rfl ?_
  | refine Mine.name_bootq (by assumption) (by assumption) PyProof.Rows.Boot.len rfl (by decide) ?_
  | refine Mine.name_bootq (by assumption) (by assumption) PyProof.Rows.Boot.range rfl (by decide) ?_
  | refine Mine.name_bootq (by assumption) (by assumption) PyProof.Rows.Boot.max rfl (by decide) ?_
  | refine Mine.name_bootq (by assumption) (by assumption) PyProof.Rows.Boot.sorted rfl (by decide) ?_
  | refine Mine.name_bootq (by assumption) (by assumption) PyProof.Rows.Boot.list rfl (by decide) ?_
  | refine Mine.name_bootq (by assumption) (by assumption) PyProof.Rows.Boot.enumerate rfl (by decide) ?_)
local macro_rules | `(tactic| walk_at "hq") => `(tactic| first
  | with_reducible refine wpAny_execs_cons ?_
  | with_reducible refine wpAny_execs_nil ?_
  | ((with_reducible show wpAny _ _ (exec (Stmt.Assign [Expr.Name _ _] _ _) _) _ _ _); refine wpAny_Assign_Name ?_)
  | ((with_reducible show wpAny _ _ (exec (Stmt.Assign [Expr.Subscript _ _ _] _ _) _) _ _ _); refine wpAny_Assign_Subscript ?_)
  | ((with_reducible show wpAny _ _ (exec (Stmt.Expr _ _) _) _ _ _); refine wpAny_Expr_any ?_)
  | with_reducible refine wpAny_Return_some ?_
  | with_reducible refine wpAny_Continue ?_
  | with_reducible refine wpAny_Break ?_
  | with_reducible refine wpAny_Constant_int ?_
  | with_reducible refine wpAny_BinOp ?_
  | ((with_reducible show wpAny _ _ (isTrue (Expr.Compare _ [_] [_] _) _ _) _ _ _); refine wpAny_isTrue_Compare1 ?_)
  | ((with_reducible show wpAny _ _ (eval (Expr.Compare _ [_] [_] _) _) _ _ _); refine wpAny_Compare1 ?_)
  | ((with_reducible show wpAny _ _ (exec (Stmt.AugAssign (Expr.Name _ _) _ _ _) _) _ _ _); refine wpAny_AugAssign_Name ?_)
  | ((with_reducible show wpAny _ _ (loadName _ _) _ _ _); refine Mine.ldnq (by assumption) (by walk_at "hplook") ?_)
  | with_reducible refine PyProof.Rows.iadd_int ?_
  | with_reducible refine PyProof.Rows.eq_int ?_
  | with_reducible refine PyProof.Rows.BoolOp_one ?_
  | with_reducible refine PyProof.Rows.BoolOp_and ?_
  | with_reducible refine wpAny_Slice ?_
  | with_reducible refine evalPart_none_step ?_
  | with_reducible refine evalPart_some_step ?_
  | with_reducible refine Mine.const_bool ?_
  | with_reducible refine PyProof.Rows.UnaryOp_ ?_
  | with_reducible refine PyProof.Rows.neg_int ?_
  | with_reducible refine PyProof.Rows.Tuple_ ?_
  | with_reducible refine PyProof.Rows.List_ ?_
  | with_reducible refine isTrue_and_nil ?_
  | with_reducible refine isTrue_and ?_
  | with_reducible refine isTrue_not ?_
  | ((with_reducible show wpAny _ _ (isTrue (Expr.Name _ _) _ _) _ _ _); refine isTrue_plain ?_)
  | with_reducible refine Subscript_ ?_
  | ((with_reducible show wpAny _ _ (eval (Expr.Name _ _) _) _ _ _); walk_at "hqname")
  | ((with_reducible show wpAny _ _ (eval (Expr.Call (Expr.Name _ _) _ _ _) _) _ _ _); refine PyProof.Rows.Call_ ?_)
  | ((with_reducible show wpAny _ _ (callWith _ (Value.builtin _) _ _ _) _ _ _); refine PyProof.Rows.callWith_builtin1 ?_)
  | ((with_reducible show wpAny _ _ (callWith _ (Value.type _) _ _ _) _ _ _); refine PyProof.Rows.callWith_type1 ?_)
  | ((with_reducible show wpAny _ _ (callWith _ (Value.ref _) _ _ _) _ _ _); refine Mine.callWith_fnq (by assumption) rfl ?_)
  | ((with_reducible show wpAny _ _ (spliced (backTo _ (starEach [] _))) _ _ _); refine PyProof.Rows.args_nil ?_)
  | ((with_reducible show wpAny _ _ (spliced (backTo _ (starEach (_ :: _) _))) _ _ _); refine PyProof.Rows.args_cons ?_)
  | ((with_reducible show wpAny _ _ (storeName _ _ _) _ _ _); refine Mine.stq (by assumption) (by assumption) ?_; intro h' F' N')
  | with_reducible refine lt_int ?_
  | with_reducible refine gt_int ?_
  | with_reducible refine add_int ?_
  | with_reducible refine sub_int ?_
  | with_reducible refine wpAny_truthy_bool ?_
  | ((with_reducible show (if true = true then _ else _)); refine (if_pos rfl).mpr ?_)
  | ((with_reducible show (if false = true then _ else _)); refine (if_neg Bool.false_ne_true).mpr ?_))

namespace Mine
section
variable {prog : Program} {w : World} {A : Around} {E : Value → Shared → Prop} {s : Shared} {Q : Value → Shared → Prop} {h₀ : Heap}


theorem item_at {value slice : PySem.Expr} {a : Addr} {xs : List Itm} {n i : Nat} {u : Tok} {x : Itm} {L : Addr} {rest : List (Addr × Obj)} (N : News h₀ L s.heap ((a, lstObj xs n) :: rest)) (hx : xs[i]? = some x) (hfit : (i : Int) < 2 ^ 63) (h : Q x.1 s)
    (hs : subscripted slice false (.ref a) (.int i u) = operate [.ref a, .int i u] (getItem (.ref a) (.int i u)) := by with_unfolding_all rfl) (hg : ∀ r, letTemporaryGo value (.ref a) r = pure () := by intro _; with_unfolding_all rfl) :
    wpAny (model prog w) A (subscriptTail value slice (.ref a) (.int i u)) Q E s :=
  item_listL (PySem.IsL.isList (n := n) (N _ (.head _)).1) (by omega) hfit (by simp [hx]) h hs hg

theorem shr_nat {k : Nat} {t u : Tok} (h0 : 0 < k) (h : Q (.int (((k - 1) / 2 : Nat) : Int) s.toks) { s with toks := s.toks + 1 }) : wpAny (model prog w) A (binaryOp .RShift (.int ((k : Int) - 1) t) (.int 1 u)) Q E s := by
  refine rshift_int (by decide) ?_
  have e : ((k : Int) - 1).fdiv (2 ^ (1 : Int).toNat) = (((k - 1) / 2 : Nat) : Int) := by
    obtain ⟨j, rfl⟩ : ∃ j, k = j + 1 := ⟨k - 1, by omega⟩
    have e1 : (((j + 1 : Nat) : Int) - 1) = (j : Int) := by omega
    rw [e1, show j + 1 - 1 = j from rfl, Int.fdiv_eq_ediv_of_nonneg _ (by decide)]
    exact (Int.natCast_ediv j 2).symm
  rw [e]; exact h

set_option maxHeartbeats 1000000 in
theorem siftdown_spec {a : Addr} {xs : List Itm} {n pos : Nat} {t0 t1 : Tok}
    (hd : A.depth + 1 < recursionLimit) (hu : A.units + 100 < cLine)
    (C : Cx w (hideAll s.heap [a]))
    (hl : s.heap.get? a = some (lstObj xs n))
    (hp : ∀ x ∈ xs, PairAt (hideAll s.heap [a]) x.1 x.2) (hpos : pos < xs.length) (hsz : xs.length ≤ 1000) (pre : Hole xs pos)
    (ret : ∀ h' tk xs', (∀ b o, b ≠ a → s.heap.get? b = some o → h'.get? b = some o) → h'.get? a = some (lstObj xs' n) → xs'.Perm xs → IsHeap xs' → Q .none { s with heap := h', toks := tk }) :
    wpAny (model prog w) A (call (.ref 42) [.ref a, .int 0 t0, .int pos t1]) Q E s := by
  refine enter_def (binds := [("heap", .ref a), ("startpos", .int 0 t0), ("pos", .int pos t1)]) [a] C.of_hide.X C.of_hide.nolimit (by omega) rfl rfl (BindsTo.of_eq rfl) (locs rfl) ?_
  intro L h₁ A' tk hk hL hAh hAd hAu F
  have N : News (hideAll s.heap [a]) L h₁ [(a, lstObj xs n)] := by
    intro q hq
    cases List.mem_singleton.mp hq
    exact ⟨hk _ _ hl, hL _ _ hl, hideAll_none _ (List.mem_singleton.mpr rfl)⟩
  obtain ⟨new, hnew⟩ : ∃ new, xs[pos]? = some new := ⟨_, List.getElem?_eq_getElem hpos⟩
  repeat walk_at "hp"
  refine item_at N hnew (by omega) ?_
  repeat walk_at "hp"
  refine While_to (fun k m news => ∃ xs' t, m "heap" = some (.ref a) ∧ m "startpos" = some (.int 0 t0) ∧ m "pos" = some (.int k t) ∧ m "newitem" = some new.1 ∧ news = [(a, lstObj xs' n)] ∧
      k < xs'.length ∧ Hole (xs'.set k new) k ∧ (xs'.set k new).Perm xs ∧ xs'.length = xs.length ∧ (∀ x ∈ xs', x ∈ xs))
    (fun m news => ∃ xs' k t, m "heap" = some (.ref a) ∧ m "pos" = some (.int (k : Nat) t) ∧ m "newitem" = some new.1 ∧ news = [(a, lstObj xs' n)] ∧
      k < xs'.length ∧ IsHeap (xs'.set k new) ∧ (xs'.set k new).Perm xs ∧ xs'.length = xs.length) pos (by assumption) (by assumption) ?_ ?_ ?_
  · have e : xs.set pos new = xs := by
      obtain ⟨_, rfl⟩ := List.getElem?_eq_some_iff.mp hnew
      exact List.set_getElem_self _
    refine ⟨xs, t1, by walk_at "hplook", by walk_at "hplook", by walk_at "hplook", by walk_at "hplook", rfl, hpos, ?_, ?_, rfl, fun _ h => h⟩
    · rw [e]; exact pre
    · rw [e]
  · rintro k m news h₂ tk₂ F₂ N₂ ⟨xs', t, m1, m2, m3, m4, rfl, hk', ho, hpm, hlen, hsub⟩
    repeat walk_at "hp"
    split
    · rename_i hc
      have hc0 : 0 < k := by have := of_decide_eq_true hc; omega
      repeat walk_at "hp"
      refine shr_nat hc0 ?_
      repeat walk_at "hp"
      obtain ⟨par, hpar⟩ : ∃ par, xs'[(k - 1) / 2]? = some par := ⟨_, List.getElem?_eq_getElem (by omega)⟩
      have hnewk : (xs'.set k new)[k]? = some new := by simp [hk']
      have hpark : (xs'.set k new)[(k - 1) / 2]? = some par := by rw [List.getElem?_set_ne (by omega)]; exact hpar
      refine item_at (by assumption) hpar (by omega) ?_
      repeat walk_at "hp"
      refine wpAny_If ?_
      repeat walk_at "hp"
      have hkp := hp new (List.mem_of_getElem? hnew)
      have hkq := hp par (hsub _ (List.mem_of_getElem? hpar))
      refine lt_pair (hkp.keeps (Fr.keep (by assumption))) (hkq.keeps (Fr.keep (by assumption))) (by omega) ?_
      repeat walk_at "hp"
      split
      · rename_i hlt
        repeat walk_at "hp"
        refine set_hd (by assumption) (by assumption) (by simp) (by omega) (by omega) (by simpa using hk') ?_
        intro h₃ F₃ N₃
        repeat walk_at "hp"
        have st := sd_step ho hc0 hnewk hpark hlt
        have pm := swap_perm _ _ _ _ _ hnewk hpark
        rw [List.set_set] at st pm
        refine Out.intro (by assumption) (by assumption) ⟨(k - 1) / 2, by omega, xs'.set k par, _, by walk_at "hplook", by walk_at "hplook", by walk_at "hplook", by walk_at "hplook", ?_, by rw [List.length_set]; omega, st, pm.trans hpm, by rw [List.length_set]; exact hlen, fun x hx => ?_⟩
        · simp
        · rcases List.mem_or_eq_of_mem_set hx with hx | hx
          · exact hsub _ hx
          · exact hx ▸ hsub _ (List.mem_of_getElem? hpar)
      · rename_i hlt
        repeat walk_at "hp"
        refine Out.intro (by assumption) (by assumption) ⟨xs', k, _, by walk_at "hplook", by walk_at "hplook", by walk_at "hplook", rfl, hk', ?_, hpm, hlen⟩
        refine sd_exit ho (.inr ?_)
        have := (klt_false _ _).mp (by simpa using hlt)
        simpa [ky, List.getD_eq_getElem?_getD, hnewk, hpark] using this
    · rename_i hc
      have hc0 : k = 0 := by
        have : ¬ (0 : Int) < (k : Int) := fun h => hc (decide_eq_true h)
        omega
      exact Out.intro (by assumption) (by assumption) ⟨xs', k, _, by walk_at "hplook", by walk_at "hplook", by walk_at "hplook", rfl, hk', sd_exit ho (.inl hc0), hpm, hlen⟩
  · rintro m news h₂ tk₂ F₂ N₂ ⟨xs', k, t, m1, m3, m4, rfl, hk', ho, hpm, hlen⟩
    repeat walk_at "hp"
    refine set_hd (by assumption) (by assumption) (by simp) (by omega) (by omega) (by simpa using hk') ?_
    intro h₃ F₃ N₃
    repeat walk_at "hp"
    refine ret _ _ (xs'.set k new) (fun b o hb e => F₃.keep b o ?_) ?_ hpm ho
    · exact hideAll_get _ e (fun hm => hb (List.mem_singleton.mp hm))
    · have e := (N₃ _ (.head _)).1
      simp only [lstObj, List.map_set]
      simpa using e
end

end Mine
namespace Mine
section
variable {prog : Program} {w : World} {A : Around} {E : Value → Shared → Prop} {s : Shared} {Q : Value → Shared → Prop} {h₀ : Heap}

theorem item_int {value slice : PySem.Expr} {a : Addr} {xs : List Itm} {n : Nat} {i : Int} {u : Tok} {x : Itm} {L : Addr} {rest : List (Addr × Obj)} (N : News h₀ L s.heap ((a, lstObj xs n) :: rest)) (h0 : 0 ≤ i) (hx : xs[i.toNat]? = some x) (hfit : i < 2 ^ 63) (h : Q x.1 s)
    (hs : subscripted slice false (.ref a) (.int i u) = operate [.ref a, .int i u] (getItem (.ref a) (.int i u)) := by with_unfolding_all rfl) (hg : ∀ r, letTemporaryGo value (.ref a) r = pure () := by intro _; with_unfolding_all rfl) :
    wpAny (model prog w) A (subscriptTail value slice (.ref a) (.int i u)) Q E s :=
  item_listL (PySem.IsL.isList (n := n) (N _ (.head _)).1) h0 hfit (by simp [hx]) h hs hg

/-- the chosen child is the less one -/
theorem child_least {xs : List Itm} {k : Nat} {l r : Itm} (hl : xs[2 * k + 1]? = some l) (c : Nat) (y : Itm) (hy : xs[c]? = some y)
    (hc : (c = 2 * k + 1 ∧ (xs.length ≤ 2 * k + 2 ∨ (xs[2 * k + 2]? = some r ∧ klt l.2 r.2 = true))) ∨ (c = 2 * k + 2 ∧ xs[2 * k + 2]? = some r ∧ klt l.2 r.2 = false)) :
    ∀ i, 0 < i → i < xs.length → (i - 1) / 2 = k → kle y.2 (ky xs i) := by
  intro i i0 il ip
  have el : ky xs (2 * k + 1) = l.2 := by simp [ky, List.getD_eq_getElem?_getD, hl]
  have hi : i = 2 * k + 1 ∨ i = 2 * k + 2 := by omega
  rcases hc with ⟨rfl, hc⟩ | ⟨rfl, hr, hlt⟩
  · have : y = l := Option.some.inj (hy.symm.trans hl)
    subst this
    rcases hi with rfl | rfl
    · rw [el]; exact kle_refl _
    · rcases hc with hc | ⟨hr, hlt⟩
      · omega
      · have er : ky xs (2 * k + 2) = r.2 := by simp [ky, List.getD_eq_getElem?_getD, hr]
        rw [er]
        rw [klt_iff] at hlt
        rcases kle_total y.2 r.2 with t | t
        · exact t
        · exact absurd t hlt
  · have : y = r := Option.some.inj (hy.symm.trans hr)
    subst this
    have er : ky xs (2 * k + 2) = y.2 := by simp [ky, List.getD_eq_getElem?_getD, hr]
    rcases hi with rfl | rfl
    · rw [el]; exact (klt_false _ _).mp hlt
    · rw [er]; exact kle_refl _

theorem cast_toNat {c : Int} (h : 0 ≤ c) : ((c.toNat : Nat) : Int) = c := by omega
set_option maxHeartbeats 800000 in
theorem siftup_spec {a : Addr} {xs : List Itm} {n : Nat} {t0 : Tok}
    (hd : A.depth + 2 < recursionLimit) (hu : A.units + 200 < cLine)
    (C : Cx w (hideAll s.heap [a]))
    (hl : s.heap.get? a = some (lstObj xs n))
    (hp : ∀ x ∈ xs, PairAt (hideAll s.heap [a]) x.1 x.2) (hpos : 0 < xs.length) (hsz : xs.length ≤ 1000) (pre : Hole2 xs 0)
    (ret : ∀ h' tk xs', (∀ b o, b ≠ a → s.heap.get? b = some o → h'.get? b = some o) → h'.get? a = some (lstObj xs' n) → xs'.Perm xs → IsHeap xs' → Q .none { s with heap := h', toks := tk }) :
    wpAny (model prog w) A (call (.ref 49) [.ref a, .int 0 t0]) Q E s := by
  refine enter_def (binds := [("heap", .ref a), ("pos", .int 0 t0)]) [a] C.of_hide.X C.of_hide.nolimit (by omega) rfl rfl (BindsTo.of_eq rfl) (locs rfl) ?_
  intro L h₁ A' tk hk hL hAh hAd hAu F
  have N : News (hideAll s.heap [a]) L h₁ [(a, lstObj xs n)] := by
    intro q hq
    cases List.mem_singleton.mp hq
    exact ⟨hk _ _ hl, hL _ _ hl, hideAll_none _ (List.mem_singleton.mpr rfl)⟩
  obtain ⟨new, hnew⟩ : ∃ new, xs[0]? = some new := ⟨_, List.getElem?_eq_getElem hpos⟩
  repeat walk_at "hp"
  refine len_hd (by assumption) (List.length_map ..) hsz ?_
  intro t1 tk1
  repeat walk_at "hp"
  refine item_int (by assumption) (by omega) hnew (by omega) ?_
  repeat walk_at "hp"
  refine mul_int ?_
  repeat walk_at "hp"
  refine While_to (fun j m news => ∃ k xs' t t', j = xs.length - k ∧ m "heap" = some (.ref a) ∧ m "endpos" = some (.int (xs.length : Nat) t1) ∧ m "startpos" = some (.int 0 t0) ∧ m "newitem" = some new.1 ∧ m "pos" = some (.int (k : Nat) t) ∧ m "childpos" = some (.int (2 * (k : Nat) + 1) t') ∧
      news = [(a, lstObj xs' n)] ∧ k < xs'.length ∧ Hole2 (xs'.set k new) k ∧ (xs'.set k new).Perm xs ∧ xs'.length = xs.length ∧ (∀ x ∈ xs', x ∈ xs))
    (fun m news => ∃ k xs' t, m "heap" = some (.ref a) ∧ m "startpos" = some (.int 0 t0) ∧ m "newitem" = some new.1 ∧ m "pos" = some (.int (k : Nat) t) ∧
      news = [(a, lstObj xs' n)] ∧ k < xs'.length ∧ Hole (xs'.set k new) k ∧ (xs'.set k new).Perm xs ∧ xs'.length = xs.length ∧ (∀ x ∈ xs', x ∈ xs)) xs.length (by assumption) (by assumption) ?_ ?_ ?_
  · have e : xs.set 0 new = xs := by
      obtain ⟨_, rfl⟩ := List.getElem?_eq_some_iff.mp hnew
      exact List.set_getElem_self _
    refine ⟨0, xs, t0, _, by omega, by walk_at "hplook", by walk_at "hplook", by walk_at "hplook", by walk_at "hplook", by walk_at "hplook", by walk_at "hplook", rfl, hpos, ?_, ?_, rfl, fun _ h => h⟩
    · rw [e]; exact pre
    · rw [e]
  · rintro j m news h₂ tk₂ F₂ N₂ ⟨k, xs', t, t', rfl, m1, m2, m3, m4, m5, m6, rfl, hk', ho, hpm, hlen, hsub⟩
    repeat walk_at "hp"
    split
    · rename_i hc
      have hc0 : 2 * k + 1 < xs'.length := by have := of_decide_eq_true hc; omega
      obtain ⟨lc, hlc⟩ := at_some hc0
      repeat walk_at "hp"
      refine wpAny_mono (Q := fun f s' => f = .next ∧ Out (hideAll s.heap [a]) L s (fun m news => ∃ c tc y, m "heap" = some (.ref a) ∧ m "endpos" = some (.int (xs.length : Nat) t1) ∧ m "startpos" = some (.int 0 t0) ∧ m "newitem" = some new.1 ∧ m "pos" = some (.int (k : Nat) t) ∧ m "childpos" = some (.int c tc) ∧
        0 < c ∧ (c.toNat - 1) / 2 = k ∧ xs'[c.toNat]? = some y ∧ news = [(a, lstObj xs' n)] ∧ ∀ i, 0 < i → i < xs'.length → (i - 1) / 2 = k → kle y.2 (ky xs' i)) s') (E := fun _ _ => False) ?_ ?_ (fun _ _ h => h)
      · refine wpAny_If ?_
        repeat walk_at "hp"
        split
        · rename_i hr
          have hr0 : 2 * k + 2 < xs'.length := by have := of_decide_eq_true hr; omega
          have hrcE := at_some hr0
          cases hrcE with | intro rc hrc => _
          repeat walk_at "hp"
          refine item_int (x := lc) (by assumption) (by omega) (by rw [show (2 * (k : Int) + 1).toNat = 2 * k + 1 by omega]; exact hlc) (by omega) ?_
          repeat walk_at "hp"
          refine item_int (x := rc) (by assumption) (by omega) (by rw [show (2 * (k : Int) + 1 + 1).toNat = 2 * k + 2 by omega]; exact hrc) (by omega) ?_
          refine lt_pair ((hp lc (hsub _ (List.mem_of_getElem? hlc))).keeps (Fr.keep (by assumption))) ((hp rc (hsub _ (List.mem_of_getElem? hrc))).keeps (Fr.keep (by assumption))) (by omega) ?_
          repeat walk_at "hp"
          split
          · rename_i hlt
            repeat walk_at "hp"
            refine ⟨rfl, Out.intro (by assumption) (by assumption) ⟨2 * (k : Int) + 1 + 1, _, rc, by walk_at "hplook", by walk_at "hplook", by walk_at "hplook", by walk_at "hplook", by walk_at "hplook", by walk_at "hplook", by omega, by omega, ?_, rfl, ?_⟩⟩
            · rw [show (2 * (k : Int) + 1 + 1).toNat = 2 * k + 2 by omega]; exact hrc
            · exact child_least hlc (2 * k + 2) rc hrc (.inr ⟨rfl, hrc, by simpa using hlt⟩)
          · rename_i hlt
            repeat walk_at "hp"
            refine ⟨rfl, Out.intro (by assumption) (by assumption) ⟨2 * (k : Int) + 1, _, lc, by walk_at "hplook", by walk_at "hplook", by walk_at "hplook", by walk_at "hplook", by walk_at "hplook", by walk_at "hplook", by omega, by omega, ?_, rfl, ?_⟩⟩
            · rw [show (2 * (k : Int) + 1).toNat = 2 * k + 1 by omega]; exact hlc
            · exact child_least hlc (2 * k + 1) lc hlc (.inl ⟨rfl, .inr ⟨hrc, by simpa using hlt⟩⟩)
        · rename_i hr
          have hr0 : xs'.length ≤ 2 * k + 2 := by
            have : ¬ (2 * (k : Int) + 1 + 1 < (xs.length : Int)) := fun h => hr (decide_eq_true h)
            omega
          repeat walk_at "hp"
          refine ⟨rfl, Out.intro (by assumption) (by assumption) ⟨2 * (k : Int) + 1, _, lc, by walk_at "hplook", by walk_at "hplook", by walk_at "hplook", by walk_at "hplook", by walk_at "hplook", by walk_at "hplook", by omega, by omega, ?_, rfl, ?_⟩⟩
          · rw [show (2 * (k : Int) + 1).toNat = 2 * k + 1 by omega]; exact hlc
          · exact child_least (r := lc) hlc (2 * k + 1) lc hlc (.inl ⟨rfl, .inl hr0⟩)
      · rintro f s' ⟨rfl, h₃, tk₃, m₃, news₃, rfl, F₃, N₃, c, tc, y, n1, n2, n3, n4, n5, n6, c0, cp, hy, rfl, least⟩
        repeat walk_at "hp"
        refine item_int (x := y) (by assumption) (by omega) hy (by have := (List.getElem?_eq_some_iff.mp hy).1; omega) ?_
        repeat walk_at "hp"
        refine set_hd (by assumption) (by assumption) (by simp) (by omega) (by omega) (by simpa using hk') ?_
        intro h₄ F₄ N₄
        repeat walk_at "hp"
        refine mul_int ?_ (by exact IntMulOk.of_left (by decide))
        repeat walk_at "hp"
        have hyl := (List.getElem?_eq_some_iff.mp hy).1
        have hnewk : (xs'.set k new)[k]? = some new := by simp [hk']
        have hyk : (xs'.set k new)[c.toNat]? = some y := by rw [List.getElem?_set_ne (by omega)]; exact hy
        have st := su_step ho (by omega) cp hnewk hyk (fun i i0 il ip => by
          rw [List.length_set] at il
          rw [ky_set _ _ _ _ hk', if_neg (by omega)]
          exact least i i0 il ip)
        have pm := swap_perm _ _ _ _ _ hnewk hyk
        rw [List.set_set] at st pm
        refine Out.intro (by assumption) (by assumption) ⟨xs.length - c.toNat, by omega, c.toNat, xs'.set k y, tc, _, rfl, by walk_at "hplook", by walk_at "hplook", by walk_at "hplook", by walk_at "hplook", by rw [cast_toNat (by omega)]; walk_at "hplook", by rw [cast_toNat (by omega)]; walk_at "hplook", ?_, by rw [List.length_set]; omega, st, pm.trans hpm, by rw [List.length_set]; exact hlen, fun x hx => ?_⟩
        · simp
        · rcases List.mem_or_eq_of_mem_set hx with hx | hx
          · exact hsub _ hx
          · exact hx ▸ hsub _ (List.mem_of_getElem? hy)
    · rename_i hc
      have hc0 : xs'.length ≤ 2 * k + 1 := by
        have : ¬ (2 * (k : Int) + 1 < (xs.length : Int)) := fun h => hc (decide_eq_true h)
        omega
      refine Out.intro (by assumption) (by assumption) ⟨k, xs', _, by walk_at "hplook", by walk_at "hplook", by walk_at "hplook", by walk_at "hplook", rfl, hk', su_exit ho (by rw [List.length_set]; exact hc0), hpm, hlen, hsub⟩
  · rintro m news h₂ tk₂ F₂ N₂ ⟨k, xs', t, m1, m3, m4, m5, rfl, hk', ho, hpm, hlen, hsub⟩
    repeat walk_at "hp"
    refine set_hd (by assumption) (by assumption) (by simp) (by omega) (by omega) (by simpa using hk') ?_
    intro h₃ F₃ N₃
    repeat walk_at "hp"
    have ha : (hideAll s.heap [a]).get? a = none := hideAll_none _ (List.mem_singleton.mpr rfl)
    have hk3 : ∀ b o, b ≠ a → s.heap.get? b = some o → h₃.get? b = some o := fun b o hb e => F₃.keep b o (hideAll_get _ e (fun hm => hb (List.mem_singleton.mp hm)))
    have hl3 : h₃.get? a = some (lstObj (xs'.set k new) n) := by
      have e := (N₃ _ (.head _)).1
      simp only [lstObj, List.map_set]
      simpa using e
    refine ⟨⟨_, F₃⟩, ?_⟩
    refine siftdown_spec (n := n) (xs := xs'.set k new) (by omega) (by omega) (C.hide F₃.keep ha) hl3 (fun x hx => ?_) (by rw [List.length_set]; exact hk') (by rw [List.length_set]; omega) ho ?_
    · exact (hp x (hpm.mem_iff.mp hx)).keeps (hide1_keeps F₃.keep ha)
    · intro h₄ tk₄ xs₄ k4 l4 p4 hh
      repeat walk_at "hp"
      exact ret _ _ xs₄ (fun b o hb e => k4 b o hb (hk3 b o hb e)) l4 (p4.trans hpm) hh
end
end Mine
namespace Mine
section
variable {prog : Program} {w : World} {A : Around} {E : Value → Shared → Prop} {s : Shared} {Q : Value → Shared → Prop} {h₀ : Heap}

theorem hid_none {h : Heap} {a : Addr} : (hideAll h [a]).get? a = none := hideAll_none _ (List.mem_singleton.mpr rfl)
theorem hid_get {h : Heap} {a b : Addr} {o : Obj} (hb : b ≠ a) (e : h.get? b = some o) : (hideAll h [a]).get? b = some o := hideAll_get _ e (fun hm => hb (List.mem_singleton.mp hm))

set_option maxHeartbeats 800000 in
theorem heappush_spec {a : Addr} {xs : List Itm} {n : Nat} {x : Itm}
    (hd : A.depth + 3 < recursionLimit) (hu : A.units + 300 < cLine)
    (C : Cx w (hideAll s.heap [a]))
    (hl : s.heap.get? a = some (lstObj xs n))
    (hp : ∀ x ∈ xs, PairAt (hideAll s.heap [a]) x.1 x.2) (hx : PairAt (hideAll s.heap [a]) x.1 x.2) (hsz : xs.length ≤ 900) (pre : IsHeap xs)
    (ret : ∀ h' tk xs' n', (∀ b o, b ≠ a → s.heap.get? b = some o → h'.get? b = some o) → h'.get? a = some (lstObj xs' n') → xs'.Perm (xs ++ [x]) → IsHeap xs' → Q .none { s with heap := h', toks := tk }) :
    wpAny (model prog w) A (call (.ref 21) [.ref a, x.1]) Q E s := by
  refine enter_def (binds := [("heap", .ref a), ("item", x.1)]) [a] C.of_hide.X C.of_hide.nolimit (by omega) rfl rfl (BindsTo.of_eq rfl) (locs rfl) ?_
  intro L h₁ A' tk hk hL hAh hAd hAu F
  have N : News (hideAll s.heap [a]) L h₁ [(a, lstObj xs n)] := by
    intro q hq
    cases List.mem_singleton.mp hq
    exact ⟨hk _ _ hl, hL _ _ hl, hid_none⟩
  repeat walk_at "hp"
  refine call_append rfl rfl rfl ?_
  repeat walk_at "hp"
  refine ⟨⟨a, _, _, rfl, (N _ (.head _)).1⟩, ?_⟩
  refine PyProof.Rows.callWith_method1 ?_
  repeat walk_at "hp"
  refine append_hd (by assumption) (by assumption) (by simp) (by rw [List.length_map]; omega) ?_
  intro h₂ F₂ N₂
  have eN : (List.map (fun x : Itm => x.1) xs ++ [x.1]) = (xs ++ [x]).map (·.1) := by simp
  rw [eN] at N₂
  repeat walk_at "hp"
  refine len_hd (k := xs.length + 1) N₂ (by simp) (by omega) ?_
  intro t1 tk1
  repeat walk_at "hp"
  rw [show (((xs.length + 1 : Nat) : Int) - 1) = ((xs.length : Nat) : Int) by omega]
  repeat walk_at "hp"
  refine ⟨⟨_, F₂⟩, ?_⟩
  refine siftdown_spec (n := n + 1) (xs := xs ++ [x]) (by omega) (by omega) (C.hide F₂.keep hid_none) (N₂ _ (.head _)).1 (fun y hy => ?_) (by simp) (by simp; omega) (hole_append pre) ?_
  · rcases List.mem_append.mp hy with hy | hy
    · exact (hp y hy).keeps (hide1_keeps F₂.keep hid_none)
    · rw [List.mem_singleton.mp hy]; exact hx.keeps (hide1_keeps F₂.keep hid_none)
  · intro h₄ tk₄ xs₄ k4 l4 p4 hh
    repeat walk_at "hp"
    exact ret _ _ xs₄ _ (fun b o hb e => k4 b o hb (F₂.keep b o (hid_get hb e))) l4 p4 hh

set_option maxHeartbeats 800000 in
theorem heapreplace_spec {a : Addr} {y : Itm} {r : List Itm} {n : Nat} {x : Itm}
    (hd : A.depth + 4 < recursionLimit) (hu : A.units + 400 < cLine)
    (C : Cx w (hideAll s.heap [a]))
    (hl : s.heap.get? a = some (lstObj (y :: r) n))
    (hp : ∀ x ∈ y :: r, PairAt (hideAll s.heap [a]) x.1 x.2) (hx : PairAt (hideAll s.heap [a]) x.1 x.2) (hsz : r.length ≤ 900) (pre : IsHeap (y :: r))
    (ret : ∀ h' tk xs' n', (∀ b o, b ≠ a → s.heap.get? b = some o → h'.get? b = some o) → h'.get? a = some (lstObj xs' n') → xs'.Perm (x :: r) → IsHeap xs' → Q y.1 { s with heap := h', toks := tk }) :
    wpAny (model prog w) A (call (.ref 35) [.ref a, x.1]) Q E s := by
  refine enter_def (binds := [("heap", .ref a), ("item", x.1)]) [a] C.of_hide.X C.of_hide.nolimit (by omega) rfl rfl (BindsTo.of_eq rfl) (locs rfl) ?_
  intro L h₁ A' tk hk hL hAh hAd hAu F
  have N : News (hideAll s.heap [a]) L h₁ [(a, lstObj (y :: r) n)] := by
    intro q hq
    cases List.mem_singleton.mp hq
    exact ⟨hk _ _ hl, hL _ _ hl, hid_none⟩
  repeat walk_at "hp"
  refine item_int (x := y) (by assumption) (by omega) rfl (by omega) ?_
  repeat walk_at "hp"
  refine set_hd (by assumption) (by assumption) (by simp) (by omega) (by omega) (by simp) ?_
  intro h₂ F₂ N₂
  have l2 : h₂.get? a = some (lstObj (x :: r) n) := (N₂ _ (.head _)).1
  repeat walk_at "hp"
  refine ⟨⟨_, F₂⟩, ?_⟩
  refine siftup_spec (n := n) (xs := x :: r) (by omega) (by omega) (C.hide F₂.keep hid_none) l2 (fun z hz => ?_) (by simp) (by simp; omega) (su_start (x := x) pre (by simp)) ?_
  · rcases List.mem_cons.mp hz with rfl | hz
    · exact hx.keeps (hide1_keeps F₂.keep hid_none)
    · exact (hp z (.tail _ hz)).keeps (hide1_keeps F₂.keep hid_none)
  · intro h₄ tk₄ xs₄ k4 l4 p4 hh
    have F₄ := fr_after F₂ hid_none (N₂ _ (.head _)).2.1 k4
    repeat walk_at "hp"
    exact ret _ _ xs₄ _ (fun b o hb e => k4 b o hb (F₂.keep b o (hid_get hb e))) l4 p4 hh

theorem pop_perm {y l : Itm} {r xs' : List Itm} (h : xs'.Perm (l :: r)) : (y :: xs').Perm (y :: r ++ [l]) := by
  refine (h.cons y).trans ?_
  have : (l :: r).Perm (r ++ [l]) := by simpa using (List.perm_append_comm (l₁ := [l]) (l₂ := r))
  exact this.cons y

set_option maxHeartbeats 800000 in
theorem heappop_spec {a : Addr} {y : Itm} {r : List Itm} {n : Nat}
    (hd : A.depth + 4 < recursionLimit) (hu : A.units + 400 < cLine)
    (C : Cx w (hideAll s.heap [a]))
    (hl : s.heap.get? a = some (lstObj (y :: r) n))
    (hp : ∀ x ∈ y :: r, PairAt (hideAll s.heap [a]) x.1 x.2) (hsz : r.length ≤ 900) (pre : IsHeap (y :: r))
    (ret : ∀ h' tk xs' n', (∀ b o, b ≠ a → s.heap.get? b = some o → h'.get? b = some o) → h'.get? a = some (lstObj xs' n') → (y :: xs').Perm (y :: r) → IsHeap xs' → Q y.1 { s with heap := h', toks := tk }) :
    wpAny (model prog w) A (call (.ref 28) [.ref a]) Q E s := by
  refine enter_def (binds := [("heap", .ref a)]) [a] C.of_hide.X C.of_hide.nolimit (by omega) rfl rfl (BindsTo.of_eq rfl) (locs rfl) ?_
  intro L h₁ A' tk hk hL hAh hAd hAu F
  have N : News (hideAll s.heap [a]) L h₁ [(a, lstObj (y :: r) n)] := by
    intro q hq
    cases List.mem_singleton.mp hq
    exact ⟨hk _ _ hl, hL _ _ hl, hid_none⟩
  have hdl := isHeap_dropLast pre
  repeat walk_at "hp"
  refine call_pop rfl rfl rfl ?_
  repeat walk_at "hp"
  refine ⟨⟨a, _, _, rfl, (N _ (.head _)).1⟩, ?_⟩
  refine PyProof.Rows.callWith_method0 ?_
  rcases List.eq_nil_or_concat r with rfl | ⟨zs, l, rfl⟩
  · refine pop_hd (vs := []) (v := y.1) (by assumption) N (by simp) (by simp) ?_
    intro h₂ F₂ N₂
    repeat walk_at "hp"
    refine wpAny_If ?_
    repeat walk_at "hp"
    refine truthy_hd (by assumption) (by simp) ?_
    intro tk₃
    refine (if_neg (by decide)).mpr ?_
    repeat walk_at "hp"
    exact ret _ _ [] _ (fun b o hb e => Fr.keep (by assumption) b o (hid_get hb e)) (News.get (by assumption) (.head _)) (.refl _) isHeap_nil
  · have e1 : (y :: (zs ++ [l])).dropLast = y :: zs := by rw [← List.cons_append, List.dropLast_concat]
    rw [List.concat_eq_append] at *
    rw [e1] at hdl
    refine pop_hd (vs := (y :: zs).map (·.1)) (v := l.1) (by assumption) (by simpa [lstObj] using N) (by simp) (by simp at hsz ⊢; omega) ?_
    intro h₂ F₂ N₂
    repeat walk_at "hp"
    refine wpAny_If ?_
    repeat walk_at "hp"
    refine truthy_hd (by assumption) (by simp at hsz ⊢; omega) ?_
    intro tk₃
    refine (if_pos rfl).mpr ?_
    repeat walk_at "hp"
    refine item_int (xs := y :: zs) (x := y) (by assumption) (by omega) rfl (by omega) ?_
    repeat walk_at "hp"
    refine set_hd (by assumption) (by assumption) (by simp) (by omega) (by omega) (by simp) ?_
    intro h₃ F₃ N₃
    have l3 : h₃.get? a = some (lstObj (l :: zs) (n + 1)) := (N₃ _ (.head _)).1
    repeat walk_at "hp"
    refine ⟨⟨_, F₃⟩, ?_⟩
    refine siftup_spec (n := n + 1) (xs := l :: zs) (by omega) (by omega) (C.hide F₃.keep hid_none) l3 (fun z hz => ?_) (by simp) (by simp at hsz ⊢; omega) (su_start (x := l) hdl (by simp)) ?_
    · refine (hp z ?_).keeps (hide1_keeps F₃.keep hid_none)
      rcases List.mem_cons.mp hz with rfl | hz
      · simp
      · simp [hz]
    · intro h₄ tk₄ xs₄ k4 l4 p4 hh
      have F₄ := fr_after F₃ hid_none (N₃ _ (.head _)).2.1 k4
      repeat walk_at "hp"
      exact ret _ _ xs₄ _ (fun b o hb e => k4 b o hb (F₃.keep b o (hid_get hb e))) l4 (pop_perm p4) hh
end
end Mine
namespace Mine
/-- the nodes: the node that each hangs on, its label -/
def treeStep (acc : List Key) (n : Int) : List Key := acc ++ [(n.fmod acc.length, (n.fdiv acc.length).fmod 8)]
def tree (ns : List Int) : List Key := ns.foldl treeStep [(-1, 0)]
theorem tree_length (ns : List Int) : ∀ acc : List Key, (ns.foldl treeStep acc).length = acc.length + ns.length := by
  induction ns with
  | nil => intro acc; rfl
  | cons n r ih => intro acc; rw [List.foldl_cons, ih]; simp [treeStep]; omega
theorem tree_take {ns : List Int} {i : Nat} {n : Int} (h : ns[i]? = some n) : tree (ns.take (i + 1)) = treeStep (tree (ns.take i)) n := by
  unfold tree
  rw [List.take_succ, h, List.foldl_append]; rfl
theorem ints_at {vs : List Value} {ns : List Int} (hi : IntsAre vs ns) : ∀ {i : Nat} {v : Value}, vs[i]? = some v → ∃ n t, ns[i]? = some n ∧ v = .int n t := by
  induction hi with
  | nil => intro i v h; simp at h
  | cons n t _ ih =>
    intro i v h
    cases i with
    | zero => simp at h; exact ⟨n, t, rfl, h.symm⟩
    | succ i => exact ih h

section
variable {prog : Program} {w : World} {A : Around} {E : Value → Shared → Prop} {s : Shared} {Q : Value → Shared → Prop}
set_option maxHeartbeats 800000 in
theorem tree_spec {l : Addr} {vs : List Value} {ns : List Int} {k : Nat}
    (hh : A.handled = none) (hd : A.depth + 3 < recursionLimit) (hu : A.units + 300 < cLine)
    (C : Cx w s.heap) (hl : s.heap.get? l = some (seqObj vs.toArray k)) (hi : IntsAre vs ns) (hz : ns.length ≤ 100) (hb : ∀ n ∈ ns, 0 ≤ n ∧ n < 1000000)
    (ret : ∀ h' tk D xs n, Up s.heap h' → h'.get? D = some (lstObj xs n) → (∀ x ∈ xs, TupAt h' x.1 x.2) → xs.map (·.2) = tree ns → Q (.ref D) { s with heap := h', toks := tk }) :
    wpAny (model prog w) A (call (.ref 56) [.ref l]) Q E s := by
  refine enter_def (binds := [("numbers", .ref l)]) [] C.X C.nolimit (by omega) rfl rfl (BindsTo.of_eq rfl) (locs rfl) ?_
  intro L h₁ A' tk hk hL hAh hAd hAu F0
  have F := Fq.of_fr F0
  have N : News (hideAll s.heap []) L h₁ [] := News.nil
  have C0 : Cx w (hideAll s.heap []) := C
  clear F0
  repeat walk_at "hq"
  refine newTuple_q (by assumption) (by assumption) (by simp) ?_
  intro a0 g1 h2 F1 N1 up1 e0
  have C1 := C0.keeps up1
  repeat walk_at "hq"
  refine newList_m F1 N1 (by simp) ?_
  intro D h3 F2 N2 hD
  repeat walk_at "hq"
  refine wpAny_For ?_
  repeat walk_at "hq"
  refine iter_listQ (vs := vs) (k := k) (hAh.trans hh) (up1 _ _ hl) (fun i g m news => ∃ xs n, m "nodes" = some (.ref D) ∧ news = [(D, lstObj xs n)] ∧ (∀ x ∈ xs, TupAt g x.1 x.2) ∧ xs.map (·.2) = tree (ns.take i)) (by assumption) (by assumption) ?_ ?_ ?_
  · refine ⟨[(.ref a0, (-1, 0))], 0, by walk_at "hplook", rfl, ?_, rfl⟩
    intro x hx
    cases List.mem_singleton.mp hx
    exact ⟨a0, _, _, 0, rfl, e0⟩
  · rintro i v g₁ m₁ news₁ h₄ tk₄ own hv F₄ N₄ up₄ hadr hown ⟨xs, n, m1, rfl, hT, hx⟩
    obtain ⟨nn, tn, hn, rfl⟩ := ints_at hi hv
    have hnb := hb nn (List.mem_of_getElem? hn)
    have hxl : xs.length = 1 + i := by
      have e := congrArg List.length hx
      have e2 := (List.getElem?_eq_some_iff.mp hn).1
      rw [List.length_map, tree, tree_length, List.length_take] at e
      simp at e; omega
    have hil := (List.getElem?_eq_some_iff.mp hn).1
    have hoD : ∀ q ∈ own, q.1 ≠ D := fun q hq => hown q hq D (by simp)
    have C4 := C1.keeps up₄
    repeat walk_at "hq"
    refine call_append rfl rfl rfl ?_
    repeat walk_at "hq"
    refine ⟨⟨D, _, _, rfl, (N₄ _ (.head _)).1⟩, ?_⟩
    refine PyProof.Rows.callWith_method1 ?_
    repeat walk_at "hq"
    refine len_hd N₄ (List.length_map ..) (by omega) ?_
    intro t5 tk5
    refine mod_int (by omega) ?_
    repeat walk_at "hq"
    refine len_hd N₄ (List.length_map ..) (by omega) ?_
    intro t6 tk6
    refine floordiv_int (by omega) ?_ (Or.inl (PyProof.noPylong_small (by omega)))
    repeat walk_at "hq"
    refine mod_int (by omega) ?_
    repeat walk_at "hq"
    refine newTuple_q (by assumption) (by assumption) (by simp) ?_
    intro a7 g7 h7 F7 N7 up7 e7
    repeat walk_at "hq"
    refine appendq F7 N7 hoD (by rw [List.length_map]; omega) ?_
    intro h8 F8 N8
    repeat walk_at "hq"
    refine OutQ.intro F8 N8 up7 ⟨[(D, lstObj (xs ++ [(.ref a7, (nn.fmod xs.length, (nn.fdiv xs.length).fmod 8))]) (n + 1))], by simp [lstObj], by simp, _, _, by walk_at "hplook", rfl, ?_, ?_⟩
    · intro x hx'
      rcases List.mem_append.mp hx' with hx' | hx'
      · exact (hT x hx').keeps up7
      · cases List.mem_singleton.mp hx'
        exact ⟨a7, _, _, 0, rfl, e7⟩
    · rw [tree_take hn, ← hx, treeStep]; simp
  · rintro g₁ m₁ news₁ h₄ tk₄ F₄ N₄ up₄ ⟨xs, n, m1, rfl, hT, hx⟩
    repeat walk_at "hq"
    refine ret _ _ D xs n (fun b o e => F₄.keep _ _ (up₄ _ _ (up1 _ _ e))) (N₄ _ (.head _)).1 (fun x hx' => (hT x hx').keeps F₄.keep) ?_
    rw [hx, hi.length, List.take_of_length_le (Nat.le_refl _)]
end
end Mine
namespace Mine
/-- the ways: each node's from node 0 to itself -/
def waysStep (nd : List Key) (acc : List (List Key)) (i : Nat) : List (List Key) := acc ++ [acc.getD (nd.getD i default).1.toNat [] ++ [((nd.getD i default).2, (i : Int))]]
def waysN (nd : List Key) : Nat → List (List Key)
  | 0 => [[(0, 0)]]
  | k + 1 => waysStep nd (waysN nd k) (k + 1)
theorem waysN_length (nd : List Key) : ∀ k, (waysN nd k).length = k + 1
  | 0 => rfl
  | k + 1 => by rw [waysN, waysStep, List.length_append, waysN_length nd k]; rfl
section
variable {prog : Program} {w : World} {A : Around} {E : Value → Shared → Prop} {s : Shared} {Q : Value → Shared → Prop}
theorem ways_short (nd : List Key) (hn : nd.length ≤ 100) (k : Nat) (hk : k < nd.length) : ∀ w ∈ waysN nd k, w.length ≤ k + 1 := by
  induction k with
  | zero => intro w hw; cases List.mem_singleton.mp hw; decide
  | succ k ih =>
    intro w hw
    rw [waysN, waysStep] at hw
    rcases List.mem_append.mp hw with hw | hw
    · have := ih (by omega) w hw; omega
    · cases List.mem_singleton.mp hw
      rw [List.length_append, List.length_singleton, List.getD_eq_getElem?_getD]
      cases e : (waysN nd k)[(nd.getD (k + 1) default).1.toNat]? with
      | none => simp
      | some w' => have := ih (by omega) w' (List.mem_of_getElem? e); simp; omega

set_option maxHeartbeats 800000 in
theorem ways_spec {D : Addr} {xs : List Itm} {n : Nat}
    (hh : A.handled = none) (hd : A.depth + 3 < recursionLimit) (hu : A.units + 300 < cLine)
    (C : Cx w s.heap) (hl : s.heap.get? D = some (lstObj xs n)) (hT : ∀ x ∈ xs, TupAt s.heap x.1 x.2) (hz : xs.length ≤ 100) (h1 : 1 ≤ xs.length) (ok : TreeOk (xs.map (·.2)))
    (ret : ∀ h' tk W ys n, Up s.heap h' → h'.get? W = some (seqObj (List.map (fun y : Value × List Key => y.1) ys).toArray n) → (∀ y ∈ ys, WayAt h' y.1 y.2) → ys.map (·.2) = waysN (xs.map (·.2)) (xs.length - 1) → Q (.ref W) { s with heap := h', toks := tk }) :
    wpAny (model prog w) A (call (.ref 68) [.ref D]) Q E s := by
  refine enter_def (binds := [("nodes", .ref D)]) [] C.X C.nolimit (by omega) rfl rfl (BindsTo.of_eq rfl) (locs rfl) ?_
  intro L h₁ A' tk hk hL hAh hAd hAu F0
  have F := Fq.of_fr F0
  have N : News (hideAll s.heap []) L h₁ [] := News.nil
  have C0 : Cx w (hideAll s.heap []) := C
  clear F0
  repeat walk_at "hq"
  refine newList_q (by assumption) (by assumption) (by simp) ?_
  intro a1 g1 h2 F1 N1 up1 e1
  repeat walk_at "hq"
  refine newList_q (by assumption) (by assumption) (by simp) ?_
  intro a2 g2 h3 F2 N2 up2 e2
  repeat walk_at "hq"
  refine newList_m (by assumption) (by assumption) (by simp) ?_
  intro W h4 F3 N3 hW
  have up02 := up1.trans up2
  have C2 := C0.keeps up02
  repeat walk_at "hq"
  refine wpAny_For ?_
  repeat walk_at "hq"
  refine len_q (Fq.keep (by assumption) _ _ (up02 _ _ hl)) (List.length_map ..) (by omega) ?_
  intro t5 tk5
  repeat walk_at "hq"
  refine range2_q (by assumption) (by assumption) ?_
  intro r g6 h6 t6 u6 v6 tk6 F6 N6 up6 hr
  have C6 := C2.keeps up6
  refine iter_rangeQ (n := xs.length - 1) (hAh.trans hh) hr (by omega) (by omega) (by omega) (fun i g m news => ∃ ys n, m "nodes" = some (.ref D) ∧ m "ways" = some (.ref W) ∧ news = [(W, seqObj (List.map (fun y : Value × List Key => y.1) ys).toArray n)] ∧
    (∀ y ∈ ys, WayAt g y.1 y.2) ∧ ys.map (·.2) = waysN (xs.map (·.2)) i) (by assumption) (by assumption) ?_ ?_ ?_
  · refine ⟨[(.ref a2, [(0, 0)])], 0, by walk_at "hplook", by walk_at "hplook", rfl, ?_, rfl⟩
    intro y hy
    cases List.mem_singleton.mp hy
    refine ⟨a2, [(.ref a1, (0, 0))], 0, rfl, up6 _ _ e2, rfl, fun x hx => ?_⟩
    cases List.mem_singleton.mp hx
    exact ⟨a1, _, _, 0, rfl, up6 _ _ (up2 _ _ e1)⟩
  · rintro i ti g₁ m₁ news₁ h₇ tk₇ own hi F₇ N₇ up₇ hadr hown ⟨ys, n', m1, m2, rfl, hY, hy⟩
    have hoW : ∀ q ∈ own, q.1 ≠ W := fun q hq => hown q hq W (by simp)
    have C7 := C6.keeps up₇
    have upD : Up s.heap g₁ := (up02.trans up6).trans up₇
    cases at_some (show i + 1 < xs.length by omega) with | intro x hx => _
    have hxd : (xs.map (·.2)).getD (i + 1) default = x.2 := by simp [List.getD_eq_getElem?_getD, hx]
    have okx := ok (i + 1) (by omega) (by rw [List.length_map]; omega)
    rw [hxd] at okx
    have hyl : ys.length = i + 1 := by
      have e := congrArg List.length hy
      rw [List.length_map, waysN_length] at e; exact e
    cases at_some (show x.2.1.toNat < ys.length by omega) with | intro y hyx => _
    have hTx := hT x (List.mem_of_getElem? hx)
    have hYy := hY y (List.mem_of_getElem? hyx)
    have hshort : y.2.length ≤ i + 1 := by
      refine ways_short (xs.map (·.2)) (by rw [List.length_map]; exact hz) i (by rw [List.length_map]; omega) _ ?_
      rw [← hy]; exact List.mem_map_of_mem (List.mem_of_getElem? hyx)
    cases y with | mk yv yk => _
    unfold WayAt at hYy
    cases hYy with | intro aY hYy => _
    cases hYy with | intro wsY hYy => _
    cases hYy with | intro nY hYy => _
    cases hYy with | intro hy1 hYy => _
    cases hYy with | intro eY hYy => _
    cases hYy with | intro ekY hpY => _
    dsimp only at hy1 ekY hshort
    subst hy1
    have hwl : wsY.length ≤ i + 1 := by rw [← ekY, List.length_map] at hshort; exact hshort
    repeat walk_at "hq"
    refine call_append rfl rfl rfl ?_
    repeat walk_at "hq"
    refine ⟨⟨W, _, _, rfl, (N₇ _ (.head _)).1⟩, ?_⟩
    refine PyProof.Rows.callWith_method1 ?_
    repeat walk_at "hq"
    refine item_q (xs := xs) (x := x) (F₇.keep _ _ (upD _ _ hl)) (by omega) (by rw [show (1 + (i : Int)).toNat = i + 1 by omega]; exact hx) (by omega) ?_
    repeat walk_at "hq"
    refine tup0_q hTx (fun b o e => F₇.keep _ _ (upD _ _ e)) ?_
    intro t8
    refine item_q (xs := ys) (x := (.ref aY, yk)) (N₇ _ (.head _)).1 (by omega) hyx (by omega) ?_
    repeat walk_at "hq"
    refine item_q (xs := xs) (x := x) (F₇.keep _ _ (upD _ _ hl)) (by omega) (by rw [show (1 + (i : Int)).toNat = i + 1 by omega]; exact hx) (by omega) ?_
    repeat walk_at "hq"
    refine tup1_q hTx (fun b o e => F₇.keep _ _ (upD _ _ e)) ?_
    intro t9
    repeat walk_at "hq"
    refine newList_q F₇ N₇ (by simp) ?_
    intro a8 g8 h8 F8 N8 up8 e8
    repeat walk_at "hq"
    refine newList_q F8 N8 (by simp) ?_
    intro a9 g9 h9 F9 N9 up9 e9
    repeat walk_at "hq"
    refine add_q (vs := wsY.map (·.1)) (ws := [.ref a8]) (n := nY) (n2 := 0) F9 N9 (by exact F9.keep _ _ (up9 _ _ (up8 _ _ eY))) (by exact F9.keep _ _ e9) (by rw [List.length_map]; simp; omega) ?_
    intro aN gN hN FN NN upN eN
    repeat walk_at "hq"
    refine appendq FN NN hoW (by rw [List.length_map]; omega) ?_
    intro hZ FZ NZ
    repeat walk_at "hq"
    have upAll : Up g₁ gN := (up8.trans up9).trans upN
    refine OutQ.intro FZ NZ upAll ⟨[(W, seqObj (List.map (fun y : Value × List Key => y.1) (ys ++ [(.ref aN, yk ++ [(x.2.2, 1 + (i : Int))])])).toArray (n' + 1))], by simp, by simp, _, _, by walk_at "hplook", by walk_at "hplook", rfl, ?_, ?_⟩
    · intro z hz'
      rcases List.mem_append.mp hz' with hz' | hz'
      · exact (hY z hz').keeps upAll
      · cases List.mem_singleton.mp hz'
        refine ⟨aN, wsY ++ [(.ref a8, (x.2.2, 1 + (i : Int)))], 0, rfl, ?_, by simp [ekY], fun q hq => ?_⟩
        · simpa [lstObj] using eN
        · rcases List.mem_append.mp hq with hq | hq
          · exact (hpY q hq).keeps upAll
          · cases List.mem_singleton.mp hq
            exact ⟨a8, _, _, 0, rfl, upN _ _ (up9 _ _ e8)⟩
    · rw [waysN, waysStep, hxd, ← hy]
      simp only [List.map_append, List.map_cons, List.map_nil]
      rw [show (ys.map (·.2)).getD x.2.1.toNat [] = yk by simp [List.getD_eq_getElem?_getD, hyx], show ((i + 1 : Nat) : Int) = 1 + (i : Int) by omega]
  · rintro g₁ m₁ news₁ h₇ tk₇ F₇ N₇ up₇ ⟨ys, n', m1, m2, rfl, hY, hy⟩
    repeat walk_at "hq"
    exact ret _ _ W ys n' (fun b o e => F₇.keep _ _ (up₇ _ _ (up6 _ _ (up02 _ _ e)))) (N₇ _ (.head _)).1 (fun y hy' => (hY y hy').keeps F₇.keep) hy
end
end Mine
namespace Mine
/-- what _law_ahead asks of two ways -/
def Ahead (ks os : List Key) : Prop := ∀ k, k ≤ ks.length → k ≤ os.length → ks.take k = os.take k → (k < ks.length → k < os.length → ks[k]? ≠ os[k]?) →
  k = ks.length ∨ (k < os.length ∧ ∀ x y, x ∈ ks.drop k → (∀ z ∈ ks.drop k, kle z x) → y ∈ os.drop k → (∀ z ∈ os.drop k, kle z y) → klt x y = true)

section
variable {prog : Program} {w : World} {A : Around} {E : Value → Shared → Prop} {s : Shared} {Q : Value → Shared → Prop}
set_option maxHeartbeats 800000 in
theorem ahead_spec {a b : Addr} {xs ys : List Itm} {n n' : Nat}
    (hh : A.handled = none) (hd : A.depth + 3 < recursionLimit) (hu : A.units + 300 < cLine)
    (C : Cx w s.heap) (ha : s.heap.get? a = some (lstObj xs n)) (hb : s.heap.get? b = some (lstObj ys n')) (hpx : ∀ x ∈ xs, PairAt s.heap x.1 x.2) (hpy : ∀ x ∈ ys, PairAt s.heap x.1 x.2) (hzx : xs.length ≤ 100) (hzy : ys.length ≤ 100)
    (ok : Ahead (xs.map (·.2)) (ys.map (·.2)))
    (ret : ∀ h' tk, Up s.heap h' → Q (.bool true) { s with heap := h', toks := tk }) :
    wpAny (model prog w) A (call (.ref 75) [.ref a, .ref b]) Q E s := by
  refine enter_def (binds := [("way", .ref a), ("other", .ref b)]) [] C.X C.nolimit (by omega) rfl rfl (BindsTo.of_eq rfl) (locs rfl) ?_
  intro L h₁ A' tk hk hL hAh hAd hAu F0
  have F := Fq.of_fr F0
  have N : News (hideAll s.heap []) L h₁ [] := News.nil
  have C0 : Cx w (hideAll s.heap []) := C
  clear F0
  repeat walk_at "hq"
  refine WhileQ (fun j g m news => ∃ k t, j = xs.length - k ∧ m "way" = some (.ref a) ∧ m "other" = some (.ref b) ∧ m "same" = some (.int (k : Nat) t) ∧ news = [] ∧ k ≤ xs.length ∧ k ≤ ys.length ∧ (xs.map (·.2)).take k = (ys.map (·.2)).take k)
    (fun g m news => ∃ k t, m "way" = some (.ref a) ∧ m "other" = some (.ref b) ∧ m "same" = some (.int (k : Nat) t) ∧ news = [] ∧ k ≤ xs.length ∧ k ≤ ys.length ∧ (xs.map (·.2)).take k = (ys.map (·.2)).take k ∧
      (k < xs.length → k < ys.length → (xs.map (·.2))[k]? ≠ (ys.map (·.2))[k]?)) xs.length (by assumption) (by assumption) ?_ ?_ ?_
  · exact ⟨0, _, by omega, by walk_at "hplook", by walk_at "hplook", by walk_at "hplook", rfl, by omega, by omega, rfl⟩
  · rintro j g₁ m₁ news₁ h₂ tk₂ F₂ N₂ up ⟨k, t, rfl, m1, m2, m3, rfl, k1, k2, htk⟩
    have C2 := C0.keeps up
    repeat walk_at "hq"
    refine len_q (F₂.keep _ _ (up _ _ ha)) (List.length_map ..) (by omega) ?_
    intro t3 tk3
    repeat walk_at "hq"
    split
    · rename_i c1
      have c1' : k < xs.length := by have := of_decide_eq_true c1; omega
      repeat walk_at "hq"
      refine len_q (F₂.keep _ _ (up _ _ hb)) (List.length_map ..) (by omega) ?_
      intro t4 tk4
      repeat walk_at "hq"
      split
      · rename_i c2
        have c2' : k < ys.length := by have := of_decide_eq_true c2; omega
        cases at_some c1' with | intro x hx => _
        cases at_some c2' with | intro y hy => _
        repeat walk_at "hq"
        refine item_q (xs := xs) (x := x) (F₂.keep _ _ (up _ _ ha)) (by omega) hx (by omega) ?_
        repeat walk_at "hq"
        refine item_q (xs := ys) (x := y) (F₂.keep _ _ (up _ _ hb)) (by omega) hy (by omega) ?_
        refine eq_pair (hpx x (List.mem_of_getElem? hx)) (hpy y (List.mem_of_getElem? hy)) (fun q o e => F₂.keep _ _ (up _ _ e)) (by omega) ?_
        have ex : (xs.map (·.2))[k]? = some x.2 := by simp [hx]
        have ey : (ys.map (·.2))[k]? = some y.2 := by simp [hy]
        repeat walk_at "hq"
        split
        · rename_i c3
          have c3' : x.2 = y.2 := of_decide_eq_true c3
          repeat walk_at "hq"
          refine OutQ.intro (by assumption) (by assumption) up ⟨xs.length - (k + 1), by omega, k + 1, _, rfl, by walk_at "hplook", by walk_at "hplook", by walk_at "hplook", rfl, by omega, by omega, ?_⟩
          rw [List.take_succ, List.take_succ, ex, ey, htk, c3']
        · rename_i c3
          have c3' : ¬ x.2 = y.2 := fun e => c3 (decide_eq_true e)
          repeat walk_at "hq"
          refine OutQ.intro (by assumption) (by assumption) up ⟨k, _, by walk_at "hplook", by walk_at "hplook", by walk_at "hplook", rfl, k1, k2, htk, fun _ _ => ?_⟩
          rw [ex, ey]; exact fun e => c3' (Option.some.inj e)
      · rename_i c2
        have c2' : ¬ k < ys.length := fun h => c2 (decide_eq_true (by omega))
        repeat walk_at "hq"
        exact OutQ.intro (by assumption) (by assumption) up ⟨k, _, by walk_at "hplook", by walk_at "hplook", by walk_at "hplook", rfl, k1, k2, htk, fun _ h => absurd h c2'⟩
    · rename_i c1
      have c1' : ¬ k < xs.length := fun h => c1 (decide_eq_true (by omega))
      repeat walk_at "hq"
      exact OutQ.intro (by assumption) (by assumption) up ⟨k, _, by walk_at "hplook", by walk_at "hplook", by walk_at "hplook", rfl, k1, k2, htk, fun h _ => absurd h c1'⟩
  · rintro g₁ m₁ news₁ h₂ tk₂ F₂ N₂ up ⟨k, t, m1, m2, m3, rfl, k1, k2, htk, hne⟩
    have C2 := C0.keeps up
    have hok := ok k (by rw [List.length_map]; exact k1) (by rw [List.length_map]; exact k2) htk (by rw [List.length_map, List.length_map]; exact hne)
    rw [List.length_map, List.length_map] at hok
    repeat walk_at "hq"
    refine wpAny_If ?_
    repeat walk_at "hq"
    refine len_q (F₂.keep _ _ (up _ _ ha)) (List.length_map ..) (by omega) ?_
    intro t3 tk3
    repeat walk_at "hq"
    split
    · repeat walk_at "hq"
      exact ret _ _ (fun q o e => F₂.keep _ _ (up _ _ e))
    · rename_i c1
      have c1' : ¬ k = xs.length := fun e => c1 (by rw [e]; simp)
      have hok2 := hok.resolve_left c1'
      repeat walk_at "hq"
      refine len_q (F₂.keep _ _ (up _ _ hb)) (List.length_map ..) (by omega) ?_
      intro t4 tk4
      repeat walk_at "hq"
      refine (if_pos (decide_eq_true (by omega))).mpr ?_
      repeat walk_at "hq"
      refine slice_q (vs := List.map (fun x : Itm => x.1) xs) (n := n) F₂ N₂ (F₂.keep _ _ (up _ _ ha)) (by omega) (by rw [List.length_map]; omega) ?_
      intro D1 g3 h3 F3 N3 up3 e3
      have C3 := C2.keeps up3
      rw [← List.map_drop] at e3
      repeat walk_at "hq"
      refine max_q (xs := xs.drop k) (k := 0) (hAh.trans hh) (by omega) F3 N3 (by simpa [lstObj] using e3) (fun x hx => (hpx x (List.mem_of_mem_drop hx)).keeps (fun q o e => up3 _ _ (up _ _ e))) (by rw [List.length_drop]; omega) ?_
      intro v h4 tk5 hv hvm F4 N4
      repeat walk_at "hq"
      refine slice_q (vs := List.map (fun x : Itm => x.1) ys) (n := n') F4 N4 (F4.keep _ _ (up3 _ _ (up _ _ hb))) (by omega) (by rw [List.length_map]; omega) ?_
      intro D2 g5 h5 F5 N5 up5 e5
      rw [← List.map_drop] at e5
      repeat walk_at "hq"
      refine max_q (xs := ys.drop k) (k := 0) (hAh.trans hh) (by omega) F5 N5 (by simpa [lstObj] using e5) (fun x hx => (hpy x (List.mem_of_mem_drop hx)).keeps (fun q o e => up5 _ _ (up3 _ _ (up _ _ e)))) (by rw [List.length_drop]; omega) ?_
      intro v' h6 tk6 hv' hvm' F6 N6
      have upE : Up s.heap h6 := fun q o e => F6.keep _ _ (up5 _ _ (up3 _ _ (up _ _ e)))
      refine lt_pair ((hpx v (List.mem_of_mem_drop hv)).keeps upE) ((hpy v' (List.mem_of_mem_drop hv')).keeps upE) (by omega) ?_
      have hlt : klt v.2 v'.2 = true := by
        refine hok2.2 v.2 v'.2 (by rw [← List.map_drop]; exact List.mem_map_of_mem hv) ?_ (by rw [← List.map_drop]; exact List.mem_map_of_mem hv') ?_
        · intro z hz
          rw [← List.map_drop] at hz
          cases List.mem_map.mp hz with | intro z' hz' => exact hz'.2 ▸ hvm z' hz'.1
        · intro z hz
          rw [← List.map_drop] at hz
          cases List.mem_map.mp hz with | intro z' hz' => exact hz'.2 ▸ hvm' z' hz'.1
      rw [hlt]
      exact ret _ _ upE
end
end Mine
namespace Mine
section
variable {prog : Program} {w : World} {A : Around} {E : Value → Shared → Prop} {s : Shared} {g : Heap} {L : Addr} {m : Str → Option Value} {news rest : List (Addr × Obj)} {Q : Value → Shared → Prop}
/-- a new list that stays as it is, and is new -/
theorem newList_n {vs : List Value} (F : Fq g L s.heap m) (N : News g L s.heap news) (hz : vs.length ≤ 1000)
    (h : ∀ a g' h', Fq g' L h' m → News g' L h' news → Up g g' → g'.get? a = some (seqObj vs.toArray 0) → s.heap.get? a = none → Q (.ref a) { s with heap := h' }) : wpAny (model prog w) A (newList vs) Q E s := by
  refine wpAny_newObj_type ?_ (by show vs.toArray.size ≤ sizeLine; rw [List.size_toArray, sizeLine_eq]; omega)
  obtain ⟨g', F', N', up, new⟩ := rebase (F.push _) (News.pushed N _)
  refine h _ g' _ F' N' up (new _ _ (Heap.get?_push_size _ rfl) ?_ ?_) ?_
  · obtain ⟨oL, _, _, hL, _⟩ := F.ns
    exact Nat.ne_of_gt (Heap.lt_size hL)
  · exact fun q hq => Nat.ne_of_lt (Heap.lt_size (N q hq).1)
  · cases e : s.heap.get? s.heap.objs.size with
    | none => rfl
    | some o => exact absurd (Heap.lt_size e) (Nat.lt_irrefl _)
/-- behind a comprehension: the base anew -/
theorem comp_done {G : Prop} {h hc : Heap} {m' : Str → Option Value} {D : Addr} {items : List Itm} {k : Nat} (F : Fq g L h m) (N : News g L h news)
    (keep : ∀ b o, b ≠ L → h.get? b = some o → hc.get? b = some o) (hDn : h.get? D = none) (hDL : D ≠ L) (ns : hc.Ns L m') (hD : hc.get? D = some (lstObj items k)) (hp : ∀ x ∈ items, PairAt hc x.1 x.2 ∧ ∀ a, x.1 = .ref a → h.get? a = none)
    (ret : ∀ g', Fq g' L hc m' → News g' L hc news → Up g g' → g'.get? D = some (lstObj items k) → (∀ x ∈ items, PairAt g' x.1 x.2) → G) : G := by
  have F' : Fq g L hc m' := ⟨ns, fun b o e => keep b o (fun z => by rw [z, F.off] at e; cases e) (F.keep b o e), F.off⟩
  have N' : News g L hc news := fun q hq => ⟨keep _ _ (N q hq).2.1 (N q hq).1, (N q hq).2⟩
  obtain ⟨g', F2, N2, up, new⟩ := rebase F' N'
  refine ret g' F2 N2 up (new _ _ hD hDL fun q hq z => ?_) fun x hx => ?_
  · have := (N q hq).1
    rw [z, hDn] at this; cases this
  · obtain ⟨⟨a, t, u, n, e1, e2⟩, hn⟩ := hp x hx
    have hn := hn a e1
    refine ⟨a, t, u, n, e1, new _ _ e2 (fun z => ?_) fun q hq z => ?_⟩
    · obtain ⟨oL, _, _, hL, _⟩ := F.ns
      rw [← z, hn] at hL; cases hL
    · have := (N q hq).1
      rw [z, hn] at this; cases this
theorem truthy_q {a : Addr} {vs : List Value} {n : Nat} {Q : Bool → Shared → Prop} (e : s.heap.get? a = some (seqObj vs.toArray n)) (hz : vs.length ≤ 1000)
    (h : ∀ tk, Q (!vs.isEmpty) { s with toks := tk }) : wpAny (model prog w) A (truthy (.ref a)) Q E s := by
  refine wpAny_truthy_list (PySem.IsL.isList (n := n) e) (by rw [List.size_toArray]; omega) ?_
  have e : (!vs.toArray.isEmpty) = !vs.isEmpty := by cases vs <;> rfl
  rw [e]
  exact h _
theorem push_hq {a : Addr} {xs : List Itm} {n : Nat} {x : Itm} (hd : A.depth + 3 < recursionLimit) (hu : A.units + 300 < cLine) (C : Cx w g) (F : Fq g L s.heap m) (N : News g L s.heap ((a, lstObj xs n) :: rest)) (hr : ∀ q ∈ rest, q.1 ≠ a)
    (hp : ∀ x ∈ xs, PairAt g x.1 x.2) (hx : PairAt g x.1 x.2) (hsz : xs.length ≤ 900) (pre : IsHeap xs)
    (ret : ∀ h' tk xs' n', Fq g L h' m → News g L h' ((a, lstObj xs' n') :: rest) → xs'.Perm (xs ++ [x]) → IsHeap xs' → Q .none { s with heap := h', toks := tk }) :
    wpAny (model prog w) A (call (.ref 21) [.ref a, x.1]) Q E s := by
  have z := N _ (.head _)
  have up : Up g (hideAll s.heap [a]) := hide1_keeps F.keep z.2.2
  refine heappush_spec hd hu (C.keeps up) z.1 (fun x hx => (hp x hx).keeps up) (hx.keeps up) hsz pre ?_
  intro h' tk xs' n' hk ho pm hh
  exact ret h' tk xs' n' (F.after z.2.2 z.2.1 hk) (news_after N hr hk ho) pm hh
theorem replace_hq {a : Addr} {y : Itm} {r : List Itm} {n : Nat} {x : Itm} (hd : A.depth + 4 < recursionLimit) (hu : A.units + 400 < cLine) (C : Cx w g) (F : Fq g L s.heap m) (N : News g L s.heap ((a, lstObj (y :: r) n) :: rest)) (hr : ∀ q ∈ rest, q.1 ≠ a)
    (hp : ∀ x ∈ y :: r, PairAt g x.1 x.2) (hx : PairAt g x.1 x.2) (hsz : r.length ≤ 900) (pre : IsHeap (y :: r))
    (ret : ∀ h' tk xs' n', Fq g L h' m → News g L h' ((a, lstObj xs' n') :: rest) → xs'.Perm (x :: r) → IsHeap xs' → Q y.1 { s with heap := h', toks := tk }) :
    wpAny (model prog w) A (call (.ref 35) [.ref a, x.1]) Q E s := by
  have z := N _ (.head _)
  have up : Up g (hideAll s.heap [a]) := hide1_keeps F.keep z.2.2
  refine heapreplace_spec hd hu (C.keeps up) z.1 (fun x hx => (hp x hx).keeps up) (hx.keeps up) hsz pre ?_
  intro h' tk xs' n' hk ho pm hh
  exact ret h' tk xs' n' (F.after z.2.2 z.2.1 hk) (news_after N hr hk ho) pm hh
theorem pop_hq {a : Addr} {y : Itm} {r : List Itm} {n : Nat} (hd : A.depth + 4 < recursionLimit) (hu : A.units + 400 < cLine) (C : Cx w g) (F : Fq g L s.heap m) (N : News g L s.heap ((a, lstObj (y :: r) n) :: rest)) (hr : ∀ q ∈ rest, q.1 ≠ a)
    (hp : ∀ x ∈ y :: r, PairAt g x.1 x.2) (hsz : r.length ≤ 900) (pre : IsHeap (y :: r))
    (ret : ∀ h' tk xs' n', Fq g L h' m → News g L h' ((a, lstObj xs' n') :: rest) → (y :: xs').Perm (y :: r) → IsHeap xs' → Q y.1 { s with heap := h', toks := tk }) :
    wpAny (model prog w) A (call (.ref 28) [.ref a]) Q E s := by
  have z := N _ (.head _)
  have up : Up g (hideAll s.heap [a]) := hide1_keeps F.keep z.2.2
  refine heappop_spec hd hu (C.keeps up) z.1 (fun x hx => (hp x hx).keeps up) hsz pre ?_
  intro h' tk xs' n' hk ho pm hh
  exact ret h' tk xs' n' (F.after z.2.2 z.2.1 hk) (news_after N hr hk ho) pm hh
theorem least_of {y : Itm} {r : List Itm} (h : IsHeap (y :: r)) (x : Itm) (hx : x ∈ y :: r) : kle y.2 x.2 := by
  obtain ⟨i, hi, e⟩ := List.getElem_of_mem hx
  have := top_least h i hi
  have e0 : ky (y :: r) 0 = y.2 := by simp [ky]
  have e1 : ky (y :: r) i = x.2 := by simp [ky, List.getD_eq_getElem?_getD, List.getElem?_eq_getElem hi, e]
  rw [e0, e1] at this
  exact this
end
end Mine
namespace Mine
section
variable {prog : Program} {w : World} {A : Around} {E : Value → Shared → Prop} {s : Shared} {Q : Value → Shared → Prop}
set_option maxHeartbeats 1600000 in
theorem walked_spec {D : Addr} {xs : List Itm} {n : Nat}
    (hh : A.handled = none) (hd : A.depth + 8 < recursionLimit) (hu : A.units + 900 < cLine)
    (C : Cx w s.heap) (hl : s.heap.get? D = some (lstObj xs n)) (hT : ∀ x ∈ xs, TupAt s.heap x.1 x.2) (hz : xs.length ≤ 100) (h1 : 1 ≤ xs.length) (ok : TreeOk (xs.map (·.2)))
    (ret : ∀ h' tk W os n, Up s.heap h' → h'.get? W = some (lstObj os n) → (∀ x ∈ os, PairAt h' x.1 x.2) → WInv (xs.map (·.2)) [] (os.map (·.2)) → Q (.ref W) { s with heap := h', toks := tk }) :
    wpAny (model prog w) A (call (.ref 61) [.ref D]) Q E s := by
  refine enter_cells (binds := [("nodes", .ref D)]) C.X C.nolimit (by omega) rfl rfl (BindsTo.of_eq rfl) rfl ?_
  intro L h₁ A' tk up₁ hAh hAd hAu F0 hcells hnew
  have cN := hcells "nodes" (L + 1) rfl
  have cT := hcells "top" (L + 2) rfl
  clear hcells
  cases cT with | intro oT cT => _
  have N0 : News s.heap L h₁ [(L + 2, oT)] := by
    intro q hq
    cases List.mem_singleton.mp hq
    exact ⟨cT.1, Nat.ne_of_gt (Nat.lt_succ_of_lt (Nat.lt_succ_self _)), hnew _ (Nat.le_succ_of_le (Nat.le_succ _))⟩
  cases rebase F0 N0 with | intro g0 R0 => _
  cases R0 with | intro F R0 => _
  cases R0 with | intro N R0 => _
  cases R0 with | intro up0 hnew0 => _
  have cN0 : g0.IsCell (L + 1) (some (.ref D)) := by
    cases cN with | intro oN cN => exact ⟨oN, hnew0 _ _ cN.1 (Nat.succ_ne_self _) (fun q hq => by cases List.mem_singleton.mp hq; exact Nat.succ_ne_self _), cN.2⟩
  have C0 := C.keeps up0
  clear F0 N0
  repeat walk_at "hq"
  refine newList_q F N (by simp) ?_
  intro a1 g1 h2 F1 N1 up1 e1
  repeat walk_at "hq"
  refine newList_m F1 N1 (by simp) ?_
  intro aH h3 F2 N2 hH
  have hHT : L + 2 ≠ aH := hH _ (.head _)
  repeat walk_at "hq"
  refine newList_m (by assumption) (by assumption) (by simp) ?_
  intro aO h4 F3 N3 hO
  have hOH : aH ≠ aO := hO _ (.head _)
  have hOT : L + 2 ≠ aO := hO _ (.tail _ (.head _))
  repeat walk_at "hq"
  have N4 : News g1 L _ [(aH, lstObj [(.ref a1, (0, 0))] 0), (aO, lstObj [] 0), (L + 2, oT)] := News.sub (by assumption) (by
    intro q hq
    simp only [List.mem_cons, List.not_mem_nil, or_false] at hq ⊢
    rcases hq with h | h | h
    · exact .inr (.inl h)
    · exact .inl h
    · exact .inr (.inr h))
  have C1 := C0.keeps up1
  have cN1 : g1.IsCell (L + 1) (some (.ref D)) := cN0.keeps up1
  refine WhileQ (fun j g m news => ∃ hs os nh no oT vT, j = xs.length - os.length ∧ m "heap" = some (.ref aH) ∧ m "order" = some (.ref aO) ∧ news = [(aH, lstObj hs nh), (aO, lstObj os no), (L + 2, oT)] ∧ oT.data = .cell vT ∧
      (∀ x ∈ hs, PairAt g x.1 x.2) ∧ (∀ x ∈ os, PairAt g x.1 x.2) ∧ IsHeap hs ∧ WInv (xs.map (·.2)) (hs.map (·.2)) (os.map (·.2)))
    (fun g m news => ∃ os no rest, m "order" = some (.ref aO) ∧ news = (aO, lstObj os no) :: rest ∧ (∀ x ∈ os, PairAt g x.1 x.2) ∧ WInv (xs.map (·.2)) [] (os.map (·.2))) xs.length (by assumption) N4 ?_ ?_ ?_
  · refine ⟨[(.ref a1, (0, 0))], [], 0, 0, oT, _, rfl, by walk_at "hplook", by walk_at "hplook", rfl, cT.2, ?_, fun x hx => (nomatch hx), ?_, WInv.start (by rw [List.length_map]; exact h1)⟩
    · intro x hx
      cases List.mem_singleton.mp hx
      exact ⟨a1, _, _, 0, rfl, e1⟩
    · intro i i0 il
      simp at il; omega
  · rintro j g m news h5 tk5 F5 N5 up5 ⟨hs, os, nh, no, oT', vT, rfl, m1, m2, rfl, dT, hpH, hpO, hheap, inv⟩
    have few := inv.few
    rw [List.length_map, List.length_map, List.length_map] at few
    have C5 := C1.keeps up5
    repeat walk_at "hq"
    refine truthy_hd N5 (by rw [List.length_map]; omega) ?_
    intro tk6
    cases hs with
    | nil =>
      refine (if_neg (by decide)).mpr ?_
      refine OutQ.intro F5 (News.sub N5 (fun q hq => List.mem_cons_of_mem _ hq)) up5 ⟨os, no, _, m2, rfl, hpO, inv⟩
    | cons y r =>
      refine (if_pos rfl).mpr ?_
      repeat walk_at "hq"
      refine item_q (xs := y :: r) (x := y) (N5 _ (.head _)).1 (by omega) rfl (by simp at few ⊢; omega) ?_
      repeat walk_at "hq"
      refine pair1_q (hpH y (.head _)) F5.keep ?_
      intro t6
      have nHT : L + 2 ≠ aH := hHT
      have N6 : News g L h5 [(L + 2, oT'), (aH, lstObj (y :: r) nh), (aO, lstObj os no)] := News.sub N5 (by
        intro q hq
        simp only [List.mem_cons, List.not_mem_nil, or_false] at hq ⊢
        rcases hq with h | h | h
        · exact .inr (.inr h)
        · exact .inl h
        · exact .inr (.inl h))
      refine st_cell (v₀ := vT) F5 N6 (by
        intro q hq
        simp only [List.mem_cons, List.not_mem_nil, or_false] at hq
        rcases hq with h | h
        · rw [h]; exact Ne.symm nHT
        · rw [h]; exact Ne.symm hOT) dT rfl ?_
      intro h7 oT7 dT7 F7 N7
      repeat walk_at "hq"
      have cN7 : g.IsCell (L + 1) (some (.ref D)) := cN1.keeps up5
      have upD : Up s.heap g := (up0.trans up1).trans up5
      refine comp_range (L := L) (cl := [("top", L + 2), ("nodes", L + 1)]) (hAh.trans hh) rfl rfl (by decide) rfl (by decide) rfl rfl rfl rfl ?_
      repeat walk_at "hq"
      refine ld_cell rfl cN7 F7.keep ?_
      repeat walk_at "hq"
      refine len_q (F7.keep _ _ (upD _ _ hl)) (List.length_map ..) (by omega) ?_
      intro t8 tk8
      repeat walk_at "hq"
      refine range2_q F7 N7 ?_
      intro rr g8 h8 t9 u9 v9 tk9 F8 N8 up8 hr
      dsimp only
      have cT8 : h8.IsCell (L + 2) (some (.int y.2.2 t6)) := ⟨oT7, (N8 _ (.head _)).1, dT7⟩
      have cN8 : h8.IsCell (L + 1) (some (.ref D)) := (cN7.keeps up8).keeps F8.keep
      have C8 : Cx w h8 := (C5.keeps up8).keeps F8.keep
      refine ⟨rr, 1, (xs.length : Int), t9, u9, v9, xs.length - 1, rfl, F8.keep _ _ hr, by omega, by omega, by omega, by omega, ?_⟩
      refine ⟨_, F8.ns, ?_⟩
      refine ⟨(fun i gg items => items.map (·.2) = kidsN (xs.map (·.2)) y.2.2 i ∧ ∀ x ∈ items, PairAt gg x.1 x.2 ∧ ∀ a, x.1 = .ref a → h8.get? a = none), ?_, ?_, ?_, ?_⟩
      · exact ⟨rfl, fun x hx => (nomatch hx)⟩
      · rintro i gg gg' items upS ⟨hk, hp⟩
        refine ⟨hk, fun x hx => ?_⟩
        cases (hp x hx).1 with | intro a1 h => cases h with | intro a2 h => cases h with | intro a3 h => cases h with | intro a4 h => exact ⟨⟨a1, a2, a3, a4, h.1, upS _ _ _ _ rfl h.2⟩, (hp x hx).2⟩
      · rintro i ti gg Cc Dd Ii hc tkc mc items k o hi hmx Fc Nc upc ⟨hk, hpc⟩
        have cTc := cT8.keeps upc
        have cNc := cN8.keeps upc
        have upx : Up s.heap hc := fun b o e => Fc.keep _ _ (upc _ _ (F8.keep _ _ (up8 _ _ (upD _ _ e))))
        have hi1 : i + 1 < xs.length := Nat.add_lt_of_lt_sub hi
        have hx : xs[i + 1]? = some (xs[i + 1]'hi1) := List.getElem?_eq_getElem hi1
        have hxd : (xs.map (·.2)).getD (i + 1) default = (xs[i + 1]'hi1).2 := by simp [List.getD_eq_getElem?_getD, hx]
        have hTx := hT (xs[i + 1]'hi1) (List.mem_of_getElem? hx)
        repeat walk_at "hq"
        refine ld_cell rfl cNc Fc.keep ?_
        repeat walk_at "hq"
        refine item_q (xs := xs) (x := xs[i + 1]'hi1) (upx _ _ hl) (by omega) ?_ (by omega) ?_
        · rw [show (1 + (i : Int)).toNat = i + 1 by omega]; exact hx
        repeat walk_at "hq"
        refine tup0_q hTx upx ?_
        intro tA
        repeat walk_at "hq"
        refine ld_cell rfl cTc Fc.keep ?_
        repeat walk_at "hq"
        by_cases hq : (xs[i + 1]'hi1).2.1 = y.2.2
        · refine (if_pos (beq_iff_eq.mpr hq)).mpr ?_
          repeat walk_at "hq"
          refine ld_cell rfl cNc Fc.keep ?_
          repeat walk_at "hq"
          refine item_q (xs := xs) (x := xs[i + 1]'hi1) (upx _ _ hl) (by omega) ?_ (by omega) ?_
          · rw [show (1 + (i : Int)).toNat = i + 1 by omega]; exact hx
          repeat walk_at "hq"
          refine tup1_q hTx upx ?_
          intro tB
          repeat walk_at "hq"
          refine newList_n Fc Nc (by simp) ?_
          intro aN gN hN FN NN upN eN newN
          refine ⟨((xs[i + 1]'hi1).2.2, 1 + (i : Int)), gN, hN, _, mc, rfl, FN, NN, upN, ?_, ?_⟩
          · rw [List.map_append, hk, kidsN, hxd, if_pos hq, show ((i + 1 : Nat) : Int) = 1 + (i : Int) by omega]; rfl
          · intro z hz'
            rcases List.mem_append.mp hz' with hz' | hz'
            · exact ⟨(hpc z hz').1.keeps upN, (hpc z hz').2⟩
            · cases List.mem_singleton.mp hz'
              refine ⟨⟨aN, _, _, 0, rfl, eN⟩, fun a ea => ?_⟩
              cases ea
              cases e : h8.get? aN with
              | none => rfl
              | some o =>
                have e' := Fc.keep _ _ (upc _ _ e)
                exact absurd (newN.symm.trans e') (by intro z; cases z)
        · refine (if_neg (fun e => hq (beq_iff_eq.mp e))).mpr ?_
          refine ⟨gg, hc, _, mc, rfl, Fc, Nc, Up.refl _, ?_, hpc⟩
          rw [hk, kidsN, hxd, if_neg hq]
      · rintro Dd hc tkc items k keep hDn hDL nsc hDc ⟨hk, hpc⟩
        refine comp_done F8 N8 keep hDn hDL nsc hDc hpc ?_
        intro g9 F9 N9 up9 e9 hp9
        try dsimp only
        have up59 : Up g g9 := up8.trans up9
        have C9 : Cx w g9 := C5.keeps up59
        have hpH9 : ∀ x ∈ y :: r, PairAt g9 x.1 x.2 := fun x hx => (hpH x hx).keeps up59
        have hpO9 : ∀ x ∈ os, PairAt g9 x.1 x.2 := fun x hx => (hpO x hx).keeps up59
        have hil : items.length ≤ 99 := by
          have e := kidsN_length (xs.map (·.2)) y.2.2 (xs.length - 1)
          rw [← hk, List.length_map] at e
          omega
        have hos : os.length + (r.length + 1) ≤ xs.length := few
        have hleast : ∀ z ∈ (y :: r).map (·.2), kle y.2 z := by
          intro z hz'
          obtain ⟨x, hx, rfl⟩ := List.mem_map.mp hz'
          exact least_of hheap x hx
        have N9' : News g9 L hc [(aH, lstObj (y :: r) nh), (aO, lstObj os no), (L + 2, oT7)] := News.sub N9 (by
          intro q hq
          simp only [List.mem_cons, List.not_mem_nil, or_false] at hq ⊢
          rcases hq with h | h | h
          · exact .inr (.inl h)
          · exact .inr (.inr h)
          · exact .inl h)
        have hrH : ∀ o1 o2, ∀ q ∈ [(aO, o1), ((L + 2 : Addr), (o2 : Obj))], q.1 ≠ aH := by
          intro o1 o2 q hq
          simp only [List.mem_cons, List.not_mem_nil, or_false] at hq
          rcases hq with h | h
          · rw [h]; exact Ne.symm hOH
          · rw [h]; exact hHT
        have hrO : ∀ o1 o2, ∀ q ∈ [(aH, o1), ((L + 2 : Addr), (o2 : Obj))], q.1 ≠ aO := by
          intro o1 o2 q hq
          simp only [List.mem_cons, List.not_mem_nil, or_false] at hq
          rcases hq with h | h
          · rw [h]; exact hOH
          · rw [h]; exact hOT
        repeat walk_at "hq"
        refine wpAny_If ?_
        repeat walk_at "hq"
        refine truthy_q (F9.keep _ _ e9) (by rw [List.length_map]; omega) ?_
        intro tk10
        cases items with
        | nil =>
          refine (if_neg (by decide)).mpr ?_
          repeat walk_at "hq"
          refine call_append rfl rfl rfl ?_
          repeat walk_at "hq"
          refine ⟨⟨aO, _, _, rfl, (N9' _ (.tail _ (.head _))).1⟩, ?_⟩
          refine PyProof.Rows.callWith_method1 ?_
          repeat walk_at "hq"
          refine ⟨F9.keep, ?_⟩
          refine pop_hq (by omega) (by omega) C9 F9 N9' (hrH _ _) hpH9 (by omega) hheap ?_
          intro hX tkX xsX nX FX NX pmX hhX
          have NX' : News g9 L hX [(aO, lstObj os no), (aH, lstObj xsX nX), (L + 2, oT7)] := News.sub NX (by
            intro q hq
            simp only [List.mem_cons, List.not_mem_nil, or_false] at hq ⊢
            rcases hq with h | h | h
            · exact .inr (.inl h)
            · exact .inl h
            · exact .inr (.inr h))
          repeat walk_at "hq"
          refine appendq FX NX' (hrO _ _) (by rw [List.length_map]; omega) ?_
          intro hY FY NY
          have NY' : News g9 L hY [(aH, lstObj xsX nX), (aO, lstObj (os ++ [y]) (no + 1)), (L + 2, oT7)] := News.sub NY (by
            intro q hq
            have e : List.map (·.1) os ++ [y.1] = List.map (·.1) (os ++ [y]) := by simp
            rw [e]
            simp only [List.mem_cons, List.not_mem_nil, or_false] at hq ⊢
            rcases hq with h | h | h
            · exact .inr (.inl h)
            · exact .inl h
            · exact .inr (.inr h))
          repeat walk_at "hq"
          have pm : xsX.Perm r := pmX.cons_inv
          refine OutQ.intro FY NY' (up5.trans up59) ⟨xs.length - (os ++ [y]).length, by rw [List.length_append, List.length_singleton]; omega, xsX, os ++ [y], nX, no + 1, oT7, _, rfl, by walk_at "hplook", by walk_at "hplook", rfl, dT7, fun x hx => hpH9 x (.tail _ (pm.mem_iff.mp hx)), fun x hx => ?_, hhX, ?_⟩
          · rcases List.mem_append.mp hx with hx | hx
            · exact hpO9 x hx
            · cases List.mem_singleton.mp hx
              exact hpH9 y (.head _)
          · rw [List.map_append]
            refine inv.step ok (R := r.map (·.2)) (.refl _) hleast ?_
            rw [kids, List.length_map, ← hk]
            simpa using pm.map (·.2)
        | cons x0 rest =>
          refine (if_pos rfl).mpr ?_
          repeat walk_at "hq"
          refine call_append rfl rfl rfl ?_
          repeat walk_at "hq"
          refine ⟨⟨aO, _, _, rfl, (N9' _ (.tail _ (.head _))).1⟩, ?_⟩
          refine PyProof.Rows.callWith_method1 ?_
          repeat walk_at "hq"
          refine item_q (xs := x0 :: rest) (x := x0) (F9.keep _ _ e9) (by omega) rfl (by omega) ?_
          repeat walk_at "hq"
          refine ⟨F9.keep, ?_⟩
          refine replace_hq (by omega) (by omega) C9 F9 N9' (hrH _ _) hpH9 (hp9 x0 (.head _)) (by omega) hheap ?_
          intro hX tkX xsX nX FX NX pmX hhX
          have NX' : News g9 L hX [(aO, lstObj os no), (aH, lstObj xsX nX), (L + 2, oT7)] := News.sub NX (by
            intro q hq
            simp only [List.mem_cons, List.not_mem_nil, or_false] at hq ⊢
            rcases hq with h | h | h
            · exact .inr (.inl h)
            · exact .inl h
            · exact .inr (.inr h))
          repeat walk_at "hq"
          refine appendq FX NX' (hrO _ _) (by rw [List.length_map]; omega) ?_
          intro hY FY NY
          have NY' : News g9 L hY [(aH, lstObj xsX nX), (aO, lstObj (os ++ [y]) (no + 1)), (L + 2, oT7)] := News.sub NY (by
            intro q hq
            have e : List.map (·.1) os ++ [y.1] = List.map (·.1) (os ++ [y]) := by simp
            rw [e]
            simp only [List.mem_cons, List.not_mem_nil, or_false] at hq ⊢
            rcases hq with h | h | h
            · exact .inr (.inl h)
            · exact .inl h
            · exact .inr (.inr h))
          have hpO10 : ∀ x ∈ os ++ [y], PairAt g9 x.1 x.2 := by
            intro x hx
            rcases List.mem_append.mp hx with hx | hx
            · exact hpO9 x hx
            · cases List.mem_singleton.mp hx
              exact hpH9 y (.head _)
          try dsimp only
          repeat walk_at "hq"
          refine wpAny_For ?_
          repeat walk_at "hq"
          refine slice_q (vs := List.map (fun x : Itm => x.1) (x0 :: rest)) (n := k) FY NY' (FY.keep _ _ e9) (by omega) (by rw [List.length_map]; omega) ?_
          intro D2 g11 h11 F11 N11 up11 e11
          have e11' : g11.get? D2 = some (seqObj (List.map (fun x : Itm => x.1) rest).toArray 0) := e11
          have C11 := C9.keeps up11
          try dsimp only
          refine iter_listQ (vs := List.map (fun x : Itm => x.1) rest) (k := 0) (hAh.trans hh) e11' (fun i g m news => ∃ hs nh, m "heap" = some (.ref aH) ∧ m "order" = some (.ref aO) ∧ news = [(aH, lstObj hs nh), (aO, lstObj (os ++ [y]) (no + 1)), (L + 2, oT7)] ∧
            (∀ x ∈ hs, PairAt g x.1 x.2) ∧ IsHeap hs ∧ hs.Perm (x0 :: r ++ rest.take i)) F11 N11 ?_ ?_ ?_
          · refine ⟨xsX, nX, by walk_at "hplook", by walk_at "hplook", rfl, fun x hx => ?_, hhX, by simpa using pmX⟩
            have := pmX.mem_iff.mp hx
            rcases List.mem_cons.mp this with h | h
            · rw [h]; exact (hp9 x0 (.head _)).keeps up11
            · exact (hpH9 x (.tail _ h)).keeps up11
          · rintro i v g₁ m₁ news₁ h₄ tk₄ own hv F₄ N₄ up₄ hadr hown ⟨hs, nh', m1, m2, rfl, hpS, hS, pmS⟩
            have C12 := C11.keeps up₄
            have hi := (List.getElem?_eq_some_iff.mp hv).1
            rw [List.length_map] at hi
            have hx : rest[i]? = some (rest[i]'hi) := List.getElem?_eq_getElem hi
            have hv' : v = (rest[i]'hi).1 := by
              rw [List.getElem?_map, hx] at hv
              exact (Option.some.inj hv).symm
            subst hv'
            have hlen : hs.length ≤ 900 := by
              have e := pmS.length_eq
              rw [List.length_append, List.length_take, List.length_cons] at e
              simp at hil
              omega
            repeat walk_at "hq"
            refine ⟨F₄.keep, ?_⟩
            refine push_hq (x := rest[i]'hi) (by omega) (by omega) C12 F₄ N₄ ?_ hpS ((hp9 _ (.tail _ (List.getElem_mem hi))).keeps (up11.trans up₄)) hlen hS ?_
            · intro q hq
              rcases List.mem_append.mp (show q ∈ [(aO, lstObj (os ++ [y]) (no + 1)), (L + 2, oT7)] ++ own from hq) with h | h
              · exact hrH _ _ q h
              · exact hown q h aH (by simp)
            intro h₅ tk₅ xs5 n5 F₅ N₅ pm5 hh5
            repeat walk_at "hq"
            refine OutQ.intro F₅ N₅ (Up.refl _) ⟨[(aH, lstObj xs5 n5), (aO, lstObj (os ++ [y]) (no + 1)), (L + 2, oT7)], rfl, rfl, xs5, n5, by walk_at "hplook", by walk_at "hplook", rfl, fun x hx => ?_, hh5, ?_⟩
            · rcases List.mem_append.mp (pm5.mem_iff.mp hx) with h | h
              · exact hpS x h
              · cases List.mem_singleton.mp h
                exact (hp9 _ (.tail _ (List.getElem_mem hi))).keeps (up11.trans up₄)
            · rw [List.take_succ, hx, ← List.append_assoc]
              exact pm5.trans (pmS.append_right _)
          · rintro g₁ m₁ news₁ h₄ tk₄ F₄ N₄ up₄ ⟨hs, nh', m1, m2, rfl, hpS, hS, pmS⟩
            rw [List.length_map, List.take_length] at pmS
            repeat walk_at "hq"
            refine OutQ.intro F₄ N₄ (((up5.trans up59).trans up11).trans up₄) ⟨xs.length - (os ++ [y]).length, by rw [List.length_append, List.length_singleton]; omega, hs, os ++ [y], nh', no + 1, oT7, _, rfl, m1, m2, rfl, dT7, hpS, fun x hx => (hpO10 x hx).keeps (up11.trans up₄), hS, ?_⟩
            rw [List.map_append]
            refine inv.step ok (R := r.map (·.2)) (.refl _) hleast ?_
            rw [kids, List.length_map, ← hk]
            have e := pmS.map (·.2)
            refine e.trans ?_
            rw [← List.map_append]
            refine List.Perm.map _ ?_
            exact List.perm_middle.symm
  · rintro g m news h5 tk5 F5 N5 up5 ⟨os, no, rest, m2, rfl, hpO, inv⟩
    repeat walk_at "hq"
    exact ret _ _ aO os no (fun b o e => F5.keep _ _ (up5 _ _ (up1 _ _ (up0 _ _ e)))) (N5 _ (.head _)).1 (fun x hx => (hpO x hx).keeps F5.keep) inv
end
end Mine
namespace Mine
section
variable {nd : List Key}
/-- the way to node j -/
def way (nd : List Key) (j : Nat) : List Key := (waysN nd j).getD j []
theorem waysN_at (k : Nat) : ∀ j, j ≤ k → (waysN nd k)[j]? = some (way nd j) := by
  induction k with
  | zero => intro j hj; cases Nat.le_zero.mp hj; rfl
  | succ k ih =>
    intro j hj
    by_cases hjk : j ≤ k
    · rw [waysN, waysStep, List.getElem?_append_left (by rw [waysN_length]; omega)]
      exact ih j hjk
    · have : j = k + 1 := by omega
      subst this
      unfold way
      rw [List.getD_eq_getElem?_getD, List.getElem?_eq_getElem (by rw [waysN_length]; omega)]
      rfl
theorem way_zero : way nd 0 = [keyOf nd 0] := rfl
theorem way_succ (ok : TreeOk nd) {j : Nat} (h1 : 1 ≤ j) (h2 : j < nd.length) : way nd j = way nd (parent nd j) ++ [keyOf nd j] := by
  obtain ⟨k, rfl⟩ : ∃ k, j = k + 1 := ⟨j - 1, by omega⟩
  have o := ok (k + 1) h1 h2
  have e := waysN_at (nd := nd) k (parent nd (k + 1)) (by unfold parent; omega)
  show (waysN nd (k + 1)).getD (k + 1) [] = _
  rw [waysN, waysStep, List.getD_eq_getElem?_getD, List.getElem?_append_right (by rw [waysN_length]; exact Nat.le_refl _), waysN_length, Nat.sub_self]
  show (waysN nd k).getD (parent nd (k + 1)) [] ++ _ = _
  rw [List.getD_eq_getElem?_getD, e]
  show way nd (parent nd (k + 1)) ++ [_] = way nd (parent nd (k + 1)) ++ [_]
  congr 1
theorem parent_lt (ok : TreeOk nd) {j : Nat} (h1 : 1 ≤ j) (h2 : j < nd.length) : parent nd j < j := by
  have := ok j h1 h2
  unfold parent; omega
theorem way_last (ok : TreeOk nd) {j : Nat} (h2 : j < nd.length) : ∃ l, way nd j = l ++ [keyOf nd j] := by
  by_cases h : j = 0
  · subst h; exact ⟨[], rfl⟩
  · exact ⟨_, way_succ ok (by omega) h2⟩
theorem way_keys (ok : TreeOk nd) : ∀ j, j < nd.length → ∀ x ∈ way nd j, ∃ i, i < nd.length ∧ x = keyOf nd i := by
  intro j
  induction j using Nat.strongRecOn with
  | ind j ih =>
    intro h2 x hx
    by_cases h : j = 0
    · subst h
      rw [way_zero] at hx
      exact ⟨0, h2, List.mem_singleton.mp hx⟩
    · have hp := parent_lt ok (by omega) h2
      rw [way_succ ok (by omega) h2] at hx
      rcases List.mem_append.mp hx with hx | hx
      · exact ih _ hp (by omega) x hx
      · exact ⟨j, h2, List.mem_singleton.mp hx⟩
theorem way_prefix (ok : TreeOk nd) : ∀ j, j < nd.length → ∀ l i r, i < nd.length → way nd j = l ++ keyOf nd i :: r → way nd i = l ++ [keyOf nd i] := by
  intro j
  induction j using Nat.strongRecOn with
  | ind j ih =>
    intro h2 l i r hi e
    rcases List.eq_nil_or_concat r with rfl | ⟨r', z, rfl⟩
    · obtain ⟨l', e'⟩ := way_last ok h2
      have e2 := e'.symm.trans e
      have := List.append_inj_right' e2 rfl
      have hij : j = i := keyOf_inj (List.cons.inj this).1
      subst hij
      exact e
    · rw [List.concat_eq_append] at e
      have h0 : j ≠ 0 := by
        intro h
        subst h
        rw [way_zero] at e
        have := congrArg List.length e
        simp at this
        omega
      have hp := parent_lt ok (by omega) h2
      rw [way_succ ok (by omega) h2] at e
      have e2 : way nd (parent nd j) ++ [keyOf nd j] = (l ++ keyOf nd i :: r') ++ [z] := by rw [e]; simp
      have e3 := List.append_inj_left' e2 rfl
      exact ih _ hp (by omega) l i r' hi e3
theorem way_pred (ok : TreeOk nd) {j : Nat} (hj : j < nd.length) {l r : List Key} {z : Key} {i : Nat} (hi : i < nd.length) (e : way nd j = l ++ z :: keyOf nd i :: r) : 1 ≤ i ∧ z = keyOf nd (parent nd i) := by
  have e1 := way_prefix ok j hj (l ++ [z]) i r hi (by rw [e]; simp)
  have h0 : i ≠ 0 := by
    intro h
    subst h
    rw [way_zero] at e1
    have := congrArg List.length e1
    simp at this
  refine ⟨by omega, ?_⟩
  have hp := parent_lt ok (by omega) hi
  rw [way_succ ok (by omega) hi] at e1
  have e2 := List.append_inj_left' e1 rfl
  obtain ⟨l', e'⟩ := way_last ok (j := parent nd i) (by omega)
  rw [e'] at e2
  exact (List.cons.inj (List.append_inj_right' e2 rfl)).1.symm

theorem first_out {S : Key → Prop} : ∀ (os : List Key) (z : Key), S z → (∃ t ∈ os, ¬ S t) → ∃ l z' b r, z :: os = l ++ z' :: b :: r ∧ S z' ∧ ¬ S b ∧ b ∈ os
  | [], z, _, h => by obtain ⟨t, ht, _⟩ := h; cases ht
  | h :: t, z, hz, hex => by
    by_cases hh : S h
    · obtain ⟨l, z', b, r, e, h1, h2, h3⟩ := first_out t h hh (by
        obtain ⟨q, hq, hn⟩ := hex
        rcases List.mem_cons.mp hq with rfl | hq
        · exact absurd hh hn
        · exact ⟨q, hq, hn⟩)
      exact ⟨z :: l, z', b, r, by rw [e]; rfl, h1, h2, .tail _ h3⟩
    · exact ⟨[], z, h, t, rfl, hz, hh, .head _⟩

variable {O : List Key}
theorem WInv.every (I : WInv nd [] O) (ok : TreeOk nd) : ∀ i, i < nd.length → keyOf nd i ∈ O := by
  intro i
  induction i using Nat.strongRecOn with
  | ind i ih =>
    intro hi
    by_cases h : i = 0
    · subst h; simpa using I.root
    · have hp := parent_lt ok (by omega) hi
      have := (I.child i (by omega) hi).mpr (ih _ hp (by omega))
      simpa using this
theorem take_mem {α : Type} {l : List α} {k : Nat} {x : α} (h : x ∈ l.take k) : ∃ p, p < k ∧ l[p]? = some x := by
  obtain ⟨p, hp, e⟩ := List.getElem_of_mem h
  rw [List.length_take] at hp
  refine ⟨p, by omega, ?_⟩
  rw [List.getElem_take] at e
  rw [List.getElem?_eq_getElem (by omega), e]
theorem mem_take {α : Type} {l : List α} {k p : Nat} {x : α} (hp : p < k) (h : l[p]? = some x) : x ∈ l.take k := by
  have : (l.take k)[p]? = some x := by rw [List.getElem?_take, if_pos hp]; exact h
  exact List.mem_of_getElem? this
theorem WInv.above (I : WInv nd [] O) (ok : TreeOk nd) : ∀ u p, u < nd.length → O[p]? = some (keyOf nd u) → ∀ x ∈ way nd u, x ∈ O.take (p + 1) := by
  intro u
  induction u using Nat.strongRecOn with
  | ind u ih =>
    intro p hu hp x hx
    by_cases h : u = 0
    · subst h
      rw [way_zero] at hx
      rw [List.mem_singleton.mp hx]
      exact mem_take (Nat.lt_succ_self _) hp
    · rw [way_succ ok (by omega) hu] at hx
      rcases List.mem_append.mp hx with hx | hx
      · have hl := parent_lt ok (by omega) hu
        obtain ⟨p', h1, h2⟩ := take_mem (I.order p u (by omega) hu hp)
        obtain ⟨p'', h3, h4⟩ := take_mem (ih _ hl p' (by omega) h2 x hx)
        exact mem_take (by omega) h4
      · rw [List.mem_singleton.mp hx]
        exact mem_take (Nat.lt_succ_self _) hp
theorem nodup_at {α : Type} {l : List α} (nd : l.Nodup) {p q : Nat} {x : α} (hp : l[p]? = some x) (hq : l[q]? = some x) : p = q := by
  obtain ⟨h1, e1⟩ := List.getElem?_eq_some_iff.mp hp
  obtain ⟨h2, e2⟩ := List.getElem?_eq_some_iff.mp hq
  have nd' := List.pairwise_iff_getElem.mp (List.nodup_iff_pairwise_ne.mp nd)
  rcases Nat.lt_trichotomy p q with h | h | h
  · exact absurd (e1.trans e2.symm) (nd' p q h1 h2 h)
  · exact h
  · exact absurd (e2.trans e1.symm) (nd' q p h2 h1 h)
theorem kle_antisymm {x y : Key} (h : kle x y) (h' : kle y x) : x = y := by
  obtain ⟨a, b⟩ := x; obtain ⟨c, d⟩ := y
  unfold kle at *
  simp at *
  omega
theorem WInv.ahead (I : WInv nd [] O) (ok : TreeOk nd) {p q u v : Nat} (hpq : p < q) (hu : u < nd.length) (hv : v < nd.length) (ep : O[p]? = some (keyOf nd u)) (eq : O[q]? = some (keyOf nd v)) :
    Ahead (way nd u) (way nd v) := by
  have ndO : O.Nodup := by simpa using I.nodup
  intro k hk1 hk2 htk hne
  by_cases hk : k = (way nd u).length
  · exact .inl hk
  right
  obtain ⟨lv, elv⟩ := way_last ok hv
  have e1 : way nd u = (way nd u).take k ++ (way nd u).drop k := (List.take_append_drop k _).symm
  have e2 : way nd v = (way nd u).take k ++ (way nd v).drop k := by rw [htk]; exact (List.take_append_drop k _).symm
  have head : ∀ j, j < nd.length → ∃ r, way nd j = keyOf nd 0 :: r := by
    intro j
    induction j using Nat.strongRecOn with
    | ind j ih =>
      intro hj
      by_cases h : j = 0
      · subst h; exact ⟨[], rfl⟩
      · obtain ⟨r, e⟩ := ih _ (parent_lt ok (by omega) hj) (by have := parent_lt ok (j := j) (by omega) hj; omega)
        exact ⟨r ++ [keyOf nd j], by rw [way_succ ok (by omega) hj, e]; rfl⟩
  have hkv : k < (way nd v).length := by
    refine Nat.lt_of_le_of_ne hk2 fun h => ?_
    have ed : (way nd v).drop k = [] := by rw [h, List.drop_length]
    have hvu : keyOf nd v ∈ (way nd u).dropLast := by
      have e3 : way nd v = (way nd u).take k := by rw [htk, h, List.take_length]
      rw [List.dropLast_eq_take]
      have : keyOf nd v ∈ (way nd u).take k := by rw [← e3, elv]; simp
      obtain ⟨a, ha, e⟩ := take_mem this
      exact mem_take (by omega) e
    by_cases h0 : u = 0
    · subst h0; rw [way_zero] at hvu; simp at hvu
    · rw [way_succ ok (by omega) hu, List.dropLast_concat] at hvu
      have hl := parent_lt ok (by omega) hu
      obtain ⟨p', h1, h2⟩ := take_mem (I.order p u (by omega) hu ep)
      obtain ⟨p'', h3, h4⟩ := take_mem (I.above ok _ p' (by omega) h2 _ hvu)
      have := nodup_at ndO h4 eq
      omega
  have hku : k < (way nd u).length := by omega
  refine ⟨hkv, fun x y hx hxm hy hym => ?_⟩
  have hk0 : k ≠ 0 := by
    intro h
    subst h
    obtain ⟨r1, q1⟩ := head u hu
    obtain ⟨r2, q2⟩ := head v hv
    exact hne hku hkv (by rw [q1, q2]; rfl)
  generalize hc : (way nd u).take k = c at *
  generalize hks : (way nd u).drop k = ks at *
  generalize hos : (way nd v).drop k = os at *
  have hcl : c.length = k := by rw [← hc, List.length_take]; omega
  obtain ⟨c0, z, hcz⟩ : ∃ c0 z, c = c0 ++ [z] := by
    rcases List.eq_nil_or_concat c with h | ⟨c0, z, h⟩
    · rw [h] at hcl; simp at hcl; omega
    · exact ⟨c0, z, by rw [h, List.concat_eq_append]⟩
  obtain ⟨a, ha, rfl⟩ := way_keys ok u hu x (by rw [e1]; exact List.mem_append_right _ hx)
  obtain ⟨pa, hpa, epa⟩ := take_mem (I.above ok u p hu ep (keyOf nd a) (by rw [e1]; exact List.mem_append_right _ hx))
  obtain ⟨l1, r1, ek1⟩ := List.append_of_mem hx
  have wa := way_prefix ok u hu (c ++ l1) a r1 ha (by rw [e1, ek1]; simp)
  have ha1 : 1 ≤ a := by
    refine Nat.pos_of_ne_zero fun h => ?_
    subst h
    rw [way_zero] at wa
    have := congrArg List.length wa
    simp at this
    omega
  have hza : z ∈ O.take pa := by
    have wp := wa
    rw [way_succ ok ha1 ha] at wp
    have wp := List.append_inj_left' wp rfl
    have hz : z ∈ way nd (parent nd a) := by rw [wp, hcz]; simp
    obtain ⟨p', h1, h2⟩ := take_mem (I.order pa a ha1 ha epa)
    obtain ⟨p'', h3, h4⟩ := take_mem (I.above ok _ p' (by have := parent_lt ok ha1 ha; omega) h2 _ hz)
    exact mem_take (by omega) h4
  have hvn : keyOf nd v ∉ O.take pa := by
    intro h
    obtain ⟨p', h1, h2⟩ := take_mem h
    have := nodup_at ndO h2 eq
    omega
  have hvos : keyOf nd v ∈ os := by
    have ho : os ≠ [] := by
      intro h
      rw [h] at hos
      have := congrArg List.length hos
      rw [List.length_drop] at this
      simp at this
      omega
    rcases List.eq_nil_or_concat os with h | ⟨o', t, h⟩
    · exact absurd h ho
    · rw [List.concat_eq_append] at h
      have e3 := elv.symm.trans e2
      rw [h, ← List.append_assoc] at e3
      have := (List.cons.inj (List.append_inj_right' e3 rfl)).1
      rw [h, this]; simp
  obtain ⟨l, z', b, r, ez, hz', hb, hbo⟩ := first_out (S := fun k => k ∈ O.take pa) os z hza ⟨_, hvos, hvn⟩
  obtain ⟨i, hi, rfl⟩ := way_keys ok v hv b (by rw [e2]; exact List.mem_append_right _ hbo)
  have ev : way nd v = (c0 ++ l) ++ z' :: keyOf nd i :: r := by
    rw [e2, hcz]
    have : c0 ++ [z] ++ os = c0 ++ (z :: os) := by simp
    rw [this, ez]; simp
  obtain ⟨hi1, rfl⟩ := way_pred ok hv hi ev
  have hle := I.least pa _ epa i hi hb (.inr hz')
  have hxy : kle (keyOf nd a) y := kle_trans hle (hym _ hbo)
  rw [klt_iff]
  intro hyx
  have hxe := kle_antisymm hxy hyx
  subst hxe
  obtain ⟨l2, r2, ek2⟩ := List.append_of_mem hy
  have wb := way_prefix ok v hv (c ++ l2) a r2 ha (by rw [e2, ek2]; simp)
  have e5 := List.append_inj_left' (wa.symm.trans wb) rfl
  have e6 : l1 = l2 := List.append_cancel_left e5
  refine hne hku hkv ?_
  rw [e1, e2, List.getElem?_append_right (by omega), List.getElem?_append_right (by omega), hcl, Nat.sub_self, ek1, ek2, e6]
  cases l2 <;> rfl
end
end Mine
namespace Mine
theorem tree_ok_from : ∀ (ns : List Int) (acc : List Key), 1 ≤ acc.length → TreeOk acc → TreeOk (ns.foldl treeStep acc)
  | [], _, _, h => h
  | n :: r, acc, h1, h => by
    rw [List.foldl_cons]
    refine tree_ok_from r _ (by simp [treeStep]) fun i i1 i2 => ?_
    unfold treeStep at i2 ⊢
    rw [List.length_append, List.length_singleton] at i2
    by_cases hi : i < acc.length
    · have e : (acc ++ [(n.fmod acc.length, (n.fdiv acc.length).fmod 8)]).getD i default = acc.getD i default := by
        rw [List.getD_eq_getElem?_getD, List.getElem?_append_left hi, ← List.getD_eq_getElem?_getD]
      rw [e]
      exact h i i1 hi
    · have hie : i = acc.length := by omega
      subst hie
      have e : (acc ++ [(n.fmod acc.length, (n.fdiv acc.length).fmod 8)]).getD acc.length default = (n.fmod acc.length, (n.fdiv acc.length).fmod 8) := by
        rw [List.getD_eq_getElem?_getD, List.getElem?_append_right (Nat.le_refl _), Nat.sub_self]; rfl
      rw [e]
      exact ⟨Int.fmod_nonneg_of_pos _ (by omega), Int.fmod_lt_of_pos _ (by omega)⟩
theorem tree_ok (ns : List Int) : TreeOk (tree ns) := tree_ok_from ns _ (by simp) (fun i i1 i2 => by simp at i2; omega)
theorem tree_len (ns : List Int) : (tree ns).length = ns.length + 1 := by
  unfold tree
  rw [tree_length]; simp; omega
theorem strict_ext : ∀ (l l' : List Int), l.Pairwise (· < ·) → l'.Pairwise (· < ·) → (∀ x, x ∈ l ↔ x ∈ l') → l = l'
  | [], [], _, _, _ => rfl
  | [], b :: _, _, _, h => nomatch (h b).mpr (.head _)
  | a :: _, [], _, _, h => nomatch (h a).mp (.head _)
  | a :: l, b :: l', p, p', h => by
    have q := List.pairwise_cons.mp p
    have q' := List.pairwise_cons.mp p'
    have hab : a = b := by
      rcases List.mem_cons.mp ((h a).mp (.head _)) with e | e
      · exact e
      · rcases List.mem_cons.mp ((h b).mpr (.head _)) with e' | e'
        · exact e'.symm
        · have h1 := q'.1 a e
          have h2 := q.1 b e'
          omega
    subst hab
    rw [strict_ext l l' q.2 q'.2 fun x => ?_]
    constructor
    · intro hx
      rcases List.mem_cons.mp ((h x).mp (.tail _ hx)) with e | e
      · have := q.1 x hx; omega
      · exact e
    · intro hx
      rcases List.mem_cons.mp ((h x).mpr (.tail _ hx)) with e | e
      · have := q'.1 x hx; omega
      · exact e
theorem WInv.sorted {nd O : List Key} (I : WInv nd [] O) (ok : TreeOk nd) {ns : List Int} (hp : ns.Perm (O.map (·.2))) (hs : ns.Pairwise (· ≤ ·)) : ns = (List.range nd.length).map (fun i : Nat => (i : Int)) := by
  have ndO : O.Nodup := by simpa using I.nodup
  have hkey : ∀ k ∈ O, ∃ i, i < nd.length ∧ k = keyOf nd i := fun k hk => I.key k (by simpa using hk)
  have nd1 : (O.map (·.2)).Nodup := by
    rw [List.nodup_iff_pairwise_ne, List.pairwise_map]
    refine (List.nodup_iff_pairwise_ne.mp ndO).imp_of_mem ?_
    intro a b ha hb hab e
    obtain ⟨i, _, rfl⟩ := hkey a ha
    obtain ⟨j, _, rfl⟩ := hkey b hb
    rw [keyOf_snd, keyOf_snd] at e
    exact hab (by rw [show i = j by omega])
  have nd2 : ns.Nodup := hp.nodup_iff.mpr nd1
  refine strict_ext _ _ ?_ ?_ fun x => ?_
  · refine (hs.and (List.nodup_iff_pairwise_ne.mp nd2)).imp ?_
    rintro a b ⟨h1, h2⟩
    omega
  · rw [List.pairwise_map]
    exact List.pairwise_lt_range.imp (by intro a b h; omega)
  · rw [hp.mem_iff]
    constructor
    · intro hx
      obtain ⟨k, hk, rfl⟩ := List.mem_map.mp hx
      obtain ⟨i, hi, rfl⟩ := hkey k hk
      exact List.mem_map.mpr ⟨i, List.mem_range.mpr hi, (keyOf_snd _ _).symm⟩
    · intro hx
      obtain ⟨i, hi, rfl⟩ := List.mem_map.mp hx
      exact List.mem_map.mpr ⟨_, I.every ok i (List.mem_range.mp hi), keyOf_snd _ _⟩
end Mine
namespace Mine
section
variable {prog : Program} {w : World} {A : Around} {E : Value → Shared → Prop} {s : Shared} {g : Heap} {L : Addr} {m : Str → Option Value}
abbrev enumObj (it : Addr) (i : Int) (old : Value) : Obj := { cls := .type "enumerate", dict := none, data := .fields #[.none, .bool false, .ref it, rawInt i, .none, old], slots := #[] }
/-- for xi, xv in enumerate(a list that stays as it is), where nothing else changes -/
theorem enum_loopQ {env : Env} {xi xv : Str} {pi pv pt : Pos} {x1} {body : List Stmt} {R : Result → Shared → Prop} {l : Addr} {vs : List Value} {k : Nat} (hh : A.handled = none) (hl' : g.get? l = some (seqObj vs.toArray k))
    (J : Nat → Heap → (Str → Option Value) → Prop) (F : Fq g L s.heap m) (hJ : J 0 g m)
    (turn : ∀ i v t g₁ m₁ h tk own, vs[i]? = some v → Fq g₁ L h (fun y => if y = xv then some v else if y = xi then some (.int (i : Nat) t) else m₁ y) → News g₁ L h own → Up g g₁ → J i g₁ m₁ →
      wpAny (model prog w) A (execs body env) (fun f s₃ => match f with
        | .next | .cont => OutQ g₁ L s (fun g₂ m₂ l₂ => l₂ = own ∧ J (i + 1) g₂ m₂) s₃
        | _ => False) (fun _ _ => False) { s with heap := h, toks := tk })
    (done : ∀ g₁ m₁ h tk, Fq g₁ L h m₁ → Up g g₁ → J vs.length g₁ m₁ → R (.ok .next) { s with heap := h, toks := tk })
    (hL : env.locals = L := by rfl) (hk : env.scope.kind = .function := by rfl) (hxi : env.kindOf xi = some .local := by rfl) (hxv : env.kindOf xv = some .local := by rfl) :
    wpAny (model prog w) A (call (.type "enumerate") [.ref l]) (fun xval s₁ => wpAny (model prog w) A (pyIter xval) (fun it s₂ => codeAny (model prog w) A (.forLoop (.Tuple [.Name xi pi, .Name xv pv] x1 pt) it body [] env) R s₂) E s₁) E s := by
  refine call_enumerate_1 (F.keep _ _ hl') fun h₀ he₀ hit₀ hz₀ hk₀ => ?_
  refine wpAny_pyIter_enum he₀ ?_
  have new : ∀ b, s.heap.objs.size ≤ b → g.get? b = none := fun b hb => by
    cases e : g.get? b with
    | none => rfl
    | some o => exact absurd (Heap.lt_size (F.keep _ _ e)) (Nat.not_lt.mpr hb)
  have hLs : L < s.heap.objs.size := by
    obtain ⟨oL, _, _, hL, _⟩ := F.ns
    exact Heap.lt_size hL
  have hlt : l < s.heap.objs.size := Heap.lt_size (F.keep _ _ hl')
  have gI := new s.heap.objs.size (Nat.le_refl _)
  have gE := new (s.heap.objs.size + 1) (Nat.le_succ _)
  have nIL : s.heap.objs.size ≠ L := Nat.ne_of_gt hLs
  have nEL : s.heap.objs.size + 1 ≠ L := Nat.ne_of_gt (Nat.lt_succ_of_lt hLs)
  have nEI : s.heap.objs.size + 1 ≠ s.heap.objs.size := Nat.succ_ne_self _
  have nlI : l ≠ s.heap.objs.size := Nat.ne_of_lt hlt
  have nlE : l ≠ s.heap.objs.size + 1 := Nat.ne_of_lt (Nat.lt_succ_of_lt hlt)
  generalize s.heap.objs.size + 1 = e at *
  generalize s.heap.objs.size = it at *
  have F₀ : Fq g L h₀ m := by
    obtain ⟨oL, a1, a2, eL, r⟩ := F.ns
    exact ⟨⟨oL, a1, a2, hk₀ _ _ eL, r⟩, fun b o q => hk₀ b o (F.keep b o q), F.off⟩
  obtain ⟨oi₀, hoi₀, ri₀⟩ := id hit₀
  have N₀ : News g L h₀ [(e, enumObj it 0 .none), (it, oi₀)] := by
    intro q hq
    rcases List.mem_cons.mp hq with rfl | hq
    · exact ⟨he₀, nEL, gE⟩
    · cases List.mem_singleton.mp hq
      exact ⟨hoi₀, nIL, gI⟩
  refine codeAny_forLoop_any (fun k s' => ∃ i g₁ h tk m₁ old oi, s' = { s with heap := h, toks := tk } ∧ Fq g₁ L h m₁ ∧ News g₁ L h [(e, enumObj it ((i : Nat) : Int) old), (it, oi)] ∧ Up g g₁ ∧ J i g₁ m₁ ∧ h.IsListIter it l i ∧ i ≤ vs.length ∧ k = vs.length + 1 - i) ?_ (vs.length + 1)
    ⟨0, g, h₀, s.toks, m, .none, oi₀, rfl, F₀, N₀, Up.refl _, hJ, hit₀, Nat.zero_le _, rfl⟩
  rintro k' s' ⟨i, g₁, H, tk, m₁, old, oi, rfl, F₁, N₁, up, hJ₁, hit, hi, rfl⟩
  have zE := N₁ _ (.head _)
  have zI := N₁ _ (.tail _ (.head _))
  have hls : H.IsList l vs.toArray := PySem.IsL.isList (n := k) (F₁.keep _ _ (up _ _ hl'))
  have hni : g₁.get? e = none := zE.2.2
  cases hv : vs[i]? with
  | none =>
    have hsz : i = vs.length := Nat.le_antisymm hi (by simpa using hv)
    refine wpAny_pyNext_enum_end hh zE.1 hit hls (by simpa using hv) fun h₁ he₁ => wpAny_execs_nil ?_
    subst hsz
    exact done g₁ m₁ h₁ tk (F₁.after zI.2.2 zI.2.1 (fun b o hb q => he₁ b o hb q)) up hJ₁
  | some v =>
    have hlt' : i < vs.length := (List.getElem?_eq_some_iff.mp hv).1
    have heH : e < H.objs.size := Heap.lt_size zE.1
    have hiH : it < H.objs.size := Heap.lt_size zI.1
    refine wpAny_pyNext_enum_item zE.1 hit hls (by simpa using hv) nEI fun h₁ heo hit₁ ht₁ hz₁ hk₁ => ?_
    refine wpAny_letOwnedTupleGo_enum heo fun h₂ he₂ hs₂ => ?_
    replace hs₂ : Heap.SameBut e h₁ h₂ := hs₂
    have ht₂ : h₂.IsTuple H.objs.size #[.int i tk, v] := ⟨_, (hs₂.2 _ (Nat.ne_of_gt heH)).trans ht₁, rfl, _, rfl⟩
    have hz₂ : h₂.objs.size = H.objs.size + 1 := hs₂.1.trans hz₁
    refine wpAny_assign_Tuple hh ht₂ rfl rfl fun h₃ hx₃ => ?_
    replace hx₃ : Heap.ExtBut h₂.objs.size h₂ h₃ := hx₃
    have old₃ : ∀ b o, b < H.objs.size → h₂.get? b = some o → h₃.get? b = some o := fun b o hb x => hx₃ b o (by rw [hz₂]; exact Nat.ne_of_lt (Nat.lt_succ_of_lt hb)) x
    have keep₃ : ∀ b o, b ≠ e → b ≠ it → H.get? b = some o → h₃.get? b = some o := fun b o hbe hbi q => old₃ b o (Heap.lt_size q) (hs₂.extBut b o hbe (hk₁ b o hbe hbi q))
    have F₃ : Fq g₁ L h₃ m₁ := by
      obtain ⟨oL, a1, a2, eL, r⟩ := F₁.ns
      refine ⟨⟨oL, a1, a2, keep₃ _ _ (Ne.symm zE.2.1) (Ne.symm zI.2.1) eL, r⟩, fun b o q => keep₃ b o (fun z => ?_) (fun z => ?_) (F₁.keep b o q), F₁.off⟩
      · rw [z, zE.2.2] at q; cases q
      · rw [z, zI.2.2] at q; cases q
    obtain ⟨oi', hoi', ri'⟩ := hit₁
    have hoi₃ : h₃.get? it = some oi' := old₃ _ _ hiH (hs₂.extBut _ _ (Ne.symm nEI) hoi')
    have he₃ : h₃.get? e = some (enumObj it ((i + 1 : Nat) : Int) v) := by
      have : ((i + 1 : Nat) : Int) = (i : Int) + 1 := by push_cast; rfl
      rw [this]; exact old₃ _ _ heH he₂
    have N₃ : News g₁ L h₃ [(e, enumObj it ((i + 1 : Nat) : Int) v), (it, oi')] := by
      intro q hq
      rcases List.mem_cons.mp hq with rfl | hq
      · exact ⟨he₃, zE.2⟩
      · cases List.mem_singleton.mp hq
        exact ⟨hoi₃, zI.2⟩
    show wpAny _ A (do holding [v] (assign (.Name xi pi) env (.int i tk)); do holding [] (assign (.Name xv pv) env v); pure ()) _ _ _
    refine wpAny_bind (wpAny_holding (wpAny_assign_Name (stq F₃ N₃ (fun h₄ F₄ N₄ => ?_) hL hk hxi)))
    refine wpAny_bind (wpAny_holding (wpAny_assign_Name (stq F₄ N₄ (fun h₅ F₅ N₅ => wpAny_pure ?_) hL hk hxv)))
    refine wpAny_mono (turn i v tk g₁ m₁ h₅ _ _ hv F₅ N₅ up hJ₁) (fun f s₃ h₆ => ?_) (fun _ _ x => x.elim)
    have main : OutQ g₁ L s (fun g₂ m₂ l₂ => l₂ = [(e, enumObj it ((i + 1 : Nat) : Int) v), (it, oi')] ∧ J (i + 1) g₂ m₂) s₃ →
        ∃ m, m < vs.length + 1 - i ∧ ∃ i g₁ h tk m₁ old oi, s₃ = { s with heap := h, toks := tk } ∧ Fq g₁ L h m₁ ∧ News g₁ L h [(e, enumObj it ((i : Nat) : Int) old), (it, oi)] ∧ Up g g₁ ∧ J i g₁ m₁ ∧ h.IsListIter it l i ∧ i ≤ vs.length ∧ m = vs.length + 1 - i := by
      rintro ⟨g₂, h₇, tk₇, m₇, l₇, rfl, F₇, N₇, up₇, rfl, hJ₇⟩
      exact ⟨vs.length + 1 - (i + 1), by omega, i + 1, g₂, h₇, tk₇, m₇, v, oi', rfl, F₇, N₇, up.trans up₇, hJ₇, ⟨oi', (N₇ _ (.tail _ (.head _))).1, ri'⟩, hlt', rfl⟩
    cases f with
    | next => exact main h₆
    | cont => exact main h₆
    | brk => exact h₆.elim
    | ret v => exact h₆.elim
end
end Mine
namespace Mine
theorem PairAt.keepsS {h h' : Heap} {v : Value} {k : Key} (p : PairAt h v k) (hk : UpS h h') : PairAt h' v k := by
  obtain ⟨a, t, u, n, rfl, e⟩ := p
  exact ⟨a, t, u, n, rfl, hk _ _ _ _ rfl e⟩
theorem TupAt.keepsS {h h' : Heap} {v : Value} {k : Key} (p : TupAt h v k) (hk : UpS h h') : TupAt h' v k := by
  obtain ⟨a, t, u, n, rfl, e⟩ := p
  exact ⟨a, t, u, n, rfl, hk _ _ _ _ rfl e⟩
theorem WayAt.keepsS {h h' : Heap} {v : Value} {k : List Key} (p : WayAt h v k) (hk : UpS h h') : WayAt h' v k := by
  obtain ⟨a, xs, n, rfl, e, e2, hp⟩ := p
  exact ⟨a, xs, n, rfl, hk _ _ _ _ rfl e, e2, fun x hx => (hp x hx).keepsS hk⟩
theorem PairAt.same {h : Heap} {v : Value} {k k' : Key} (p : PairAt h v k) (p' : PairAt h v k') : k = k' := by
  obtain ⟨a, t, u, n, rfl, e⟩ := p
  obtain ⟨a', t', u', n', e1, e'⟩ := p'
  cases e1
  rw [e] at e'
  obtain ⟨x, y⟩ := k; obtain ⟨x', y'⟩ := k'
  simp at e'
  simp [e'.1.1, e'.1.2]
/-- behind a step that keeps all: the base anew -/
theorem after_call {G : Prop} {g h h' : Heap} {L : Addr} {m : Str → Option Value} (F : Fq g L h m) (up : Up h h')
    (ret : ∀ g', Fq g' L h' m → Up g g' → UpS h' g' → G) : G := by
  obtain ⟨oL, a1, a2, eL, dL, rL⟩ := F.ns
  have F' : Fq g L h' m := ⟨⟨oL, a1, a2, up _ _ eL, dL, rL⟩, fun b o e => up _ _ (F.keep b o e), F.off⟩
  obtain ⟨g', F2, _, upg, new⟩ := rebase F' (News.nil (h := h') (L := L) (h₀ := g))
  refine ret g' F2 upg fun b o xs n hd e => new b o e (fun z => ?_) (fun q hq => (nomatch hq))
  rw [z, up _ _ eL] at e
  cases e
  rw [dL] at hd
  cases hd
theorem ints_paired {g : Heap} {xs : List Itm} : ∀ {ys : List Value}, (∀ x ∈ xs, PairAt g x.1 x.2) → Paired (fun v y => ∃ k t, PairAt g v k ∧ y = Value.int k.2 t) (xs.map (·.1)) ys → IntsAre ys (xs.map (·.2.2)) := by
  induction xs with
  | nil => intro ys _ h; cases h; exact .nil
  | cons x r ih =>
    intro ys hp h
    cases h with
    | cons hd tl =>
      obtain ⟨k, t, p, rfl⟩ := hd
      have := p.same (hp x (.head _))
      subst this
      exact .cons _ _ (ih (fun z hz => hp z (.tail _ hz)) tl)
section
variable {prog : Program} {w : World} {A : Around} {E : Value → Shared → Prop} {s : Shared} {env : Env}
/-- [x[1] for x in a list of pairs] -/
theorem comp_snd {iter : PySem.Expr} {x : Str} {px p1 p2 p3 : Pos} {scope : Scope} {cl : List (Str × Addr)} {pos : Pos} {Q : Value → Shared → Prop} (g : Heap) (hh : A.handled = none)
    (hclos : closureFor scope env = pure cl) (hcell : ∀ z ∈ scope.names, z.2 ≠ .cell) (hkind : scope.kind = .function)
    (hnames : ∀ z ∈ scope.names, z.2 = .local → scope.names.lookup z.1 = some .local) (hx : scope.names.lookup x = some .local) (hd : (x == ("__debug__" : Str)) = false)
    (h : wpAny (model prog w) A (eval iter env) (fun xv s₁ => ∃ l xs k, xv = .ref l ∧ Up g s₁.heap ∧ s₁.heap.get? l = some (lstObj xs k) ∧ (∀ x ∈ xs, PairAt g x.1 x.2) ∧ xs.length ≤ 1000 ∧
      (∀ D h' tk ys n, Up s₁.heap h' → h'.get? D = some (seqObj ys.toArray n) → IntsAre ys (xs.map (·.2.2)) → Q (.ref D) { s₁ with heap := h', toks := tk })) E s)
    (hs : ∀ x, foldedSetIterable iter env x = pure x := by intro _; rfl) :
    wpAny (model prog w) A (eval (.ListComp (.Subscript (.Name x p1) (.Constant (.int 1) 0 p2) p3) [⟨.Name x px, iter, [], 0⟩] scope pos) env) Q E s := by
  refine wpAny_ListComp_free (fun _ => true) (fun v y => ∃ k t, PairAt g v k ∧ y = Value.int k.2 t) hclos hcell hkind hnames hx (wpAny_mono h (fun xv s₁ h₁ => ?_) fun _ _ e => e) hs
  obtain ⟨l, xs, k, rfl, upg, hl, hp, hz, hQ⟩ := h₁
  have hls : s₁.heap.IsList l (xs.map (·.1)).toArray := PySem.IsL.isList (n := k) hl
  have hlt : l < s₁.heap.objs.size := Heap.lt_size hl
  have notI : ∀ b, b < s₁.heap.objs.size → b ∉ [s₁.heap.objs.size] := fun b hb hm => Nat.ne_of_lt hb (List.mem_singleton.mp hm)
  refine wpAny_pyIter_list hls ?_
  refine ⟨s₁.heap.objs.size, [s₁.heap.objs.size, l], [s₁.heap.objs.size], _, (fun i v => (xs.map (·.1)).toArray[i]? = some v), _, rfl, Walks.list hh s₁.heap.objs.size l (Nat.ne_of_lt hlt) (xs.map (·.1)).toArray, by rw [List.size_toArray, List.length_map, sizeLine_eq]; omega,
    ⟨⟨_, Heap.get?_push_size _ rfl, rfl, rfl⟩, hls.push _⟩, ?_, ⟨?_, ?_⟩, ?_⟩
  · intro b hb
    show b < (s₁.heap.push _).objs.size
    rw [Heap.size_push]
    rcases List.mem_cons.mp hb with rfl | hb
    · exact Nat.lt_succ_self _
    · rw [List.mem_singleton.mp hb]; exact Nat.lt_succ_of_lt hlt
  · intro C i v s₃ m₃ E' _ hP hn hm hold _
    exact wpAny_tests_nil ⟨rfl, s₃.heap, s₃.toks, rfl, fun _ _ e => e⟩
  · intro C i v s₃ m₃ E' _ hP _ hn hm hold _
    have hv : (xs.map (·.1))[i]? = some v := by simpa using hP
    rw [List.getElem?_map] at hv
    cases hxi : xs[i]? with
    | none => rw [hxi] at hv; cases hv
    | some q =>
      rw [hxi] at hv
      cases hv
      have up3 : Up g s₃.heap := fun b o e => hold b o (notI b (Heap.lt_size (upg b o e))) (Heap.get?_push_of_some _ (upg b o e))
      refine Subscript_ ?_
      refine wpAny_Name (wpAny_loadName_local (by simp [compEnvC, relabel, hkind]) (lookup_relabel_local hx) hn hm ?_) hd
      refine wpAny_Constant_int ?_
      refine pair1_q (hp q (List.mem_of_getElem? hxi)) up3 fun t => ?_
      exact ⟨⟨q.2, t, hp q (List.mem_of_getElem? hxi), rfl⟩, s₃.heap, s₃.toks + 1, rfl, fun _ _ e => e⟩
  · intro D h' tk ys vs hnew _ hpl hlen hP hF hk
    rw [list_of_places hlen hP, List.filter_eq_self.mpr (fun _ _ => rfl)] at hF
    have keep : Up s₁.heap h' := fun b o e => hk b o (notI b (Heap.lt_size e)) (Heap.get?_push_of_some _ e)
    obtain ⟨n, hn⟩ := hpl
    refine hQ D h' tk ys.toList n keep (by rw [Array.toArray_toList]; exact hn) (ints_paired hp ?_)
    exact hF
/-- sorted of a list of ints -/
theorem sorted_up {l : Addr} {vs : List Value} {ns : List Int} {k : Nat} {Q : Value → Shared → Prop} (hl : s.heap.get? l = some (seqObj vs.toArray k)) (hI : IntsAre vs ns) (h64 : vs.length < 64)
    (h : ∀ D h' ys ns' n, Up s.heap h' → h'.get? D = some (seqObj ys.toArray n) → IntsAre ys ns' → ns'.Perm ns → ns'.Pairwise (· ≤ ·) → Q (.ref D) { s with heap := h' }) :
    wpAny (model prog w) A (call (.builtin "sorted") [.ref l]) Q E s := by
  refine sorted_ints (PySem.IsL.isList (n := k) hl) hI h64 fun out ns' a1 a2 a3 => ?_
  obtain ⟨e, he⟩ := sortedAll_at s.heap vs out
  exact h _ _ out.toList ns' e (fun b o q => sortedAll_old q) (by rw [Array.toArray_toList]; exact he) a1 a2 a3
theorem ints_of_items {n : Nat} {acc : Array Value} (h : ItemsOf (fun i v => ∃ t, v = Value.int (0 + (i : Nat) * 1) t) acc n) : IntsAre acc.toList ((List.range n).map (fun i : Nat => (i : Int))) := by
  obtain ⟨hn, hi⟩ := h
  have key : ∀ (l : List Value) (b : Nat), (∀ j v, l[j]? = some v → ∃ t, v = Value.int ((b + j : Nat) : Int) t) → IntsAre l ((List.range' b l.length).map (fun i : Nat => (i : Int))) := by
    intro l
    induction l with
    | nil => intro b _; exact .nil
    | cons v r ih =>
      intro b hb
      obtain ⟨t, rfl⟩ := hb 0 v rfl
      refine .cons _ _ ?_
      refine ih (b + 1) fun j v hv => ?_
      obtain ⟨t, e⟩ := hb (j + 1) v hv
      exact ⟨t, by rw [e, show b + (j + 1) = b + 1 + j by omega]⟩
  have := key acc.toList 0 (fun j v hv => by
    obtain ⟨t, e⟩ := hi j v (by rw [← Array.getElem?_toList]; exact hv)
    exact ⟨t, by rw [e]; simp⟩)
  rw [Array.length_toList, hn, ← List.range_eq_range'] at this
  exact this
/-- list(range(n)) -/
theorem list_range_up {r : Addr} {n : Nat} {t u v : Tok} {Q : Value → Shared → Prop} (hh : A.handled = none) (hr : IsRange s.heap r 0 (n : Int) 1 t u v) (hn : n ≤ 1000)
    (h : ∀ D h' tk ys c, Up s.heap h' → h'.get? D = some (seqObj ys.toArray c) → IntsAre ys ((List.range n).map (fun i : Nat => (i : Int))) → Q (.ref D) { s with heap := h', toks := tk }) :
    wpAny (model prog w) A (call (.type "list") [.ref r]) Q E s := by
  have hsz : Builtin.Range.rangeSize 0 (n : Int) 1 = (n : Int) := by rw [rangeSize_one]; split <;> omega
  refine call_list_range hh hr (small_one (by omega) (by omega) (by omega) (by omega)) hsz (by omega) fun h' tk acc' c' hk hD hacc => ?_
  exact h _ h' tk acc'.toList c' hk (by rw [Array.toArray_toList]; exact hD) (ints_of_items hacc)
end
end Mine
namespace Mine
theorem Fq.up {g h h' : Heap} {L : Addr} {m : Str → Option Value} (F : Fq g L h m) (up : Up h h') : Fq g L h' m := by
  obtain ⟨oL, a1, a2, eL, r⟩ := F.ns
  exact ⟨⟨oL, a1, a2, up _ _ eL, r⟩, fun b o e => up _ _ (F.keep b o e), F.off⟩
theorem News.up {g h h' : Heap} {L : Addr} {news : List (Addr × Obj)} (N : News g L h news) (up : Up h h') : News g L h' news := fun q hq => ⟨up _ _ (N q hq).1, (N q hq).2⟩
/-- what stands of the way to an item of the order -/
structure WayOf (g : Heap) (nd : List Key) (ys : List (Value × List Key)) (k : Key) (u : Nat) (a : Addr) (ws : List Itm) (z : Itm) (n : Nat) : Prop where
  lt : u < nd.length
  key : k = keyOf nd u
  entry : ys[k.2.toNat]? = some (.ref a, way nd u)
  obj : g.get? a = some (lstObj (ws ++ [z]) n)
  keys : (ws ++ [z]).map (·.2) = way nd u
  last : k = z.2
  pairs : ∀ q ∈ ws ++ [z], PairAt g q.1 q.2
  short : (ws ++ [z]).length ≤ nd.length
theorem wayOf {g : Heap} {nd O : List Key} {ys : List (Value × List Key)} (inv : WInv nd [] O) (ok : TreeOk nd) (hn : nd.length ≤ 100) (hy : ∀ y ∈ ys, WayAt g y.1 y.2) (hways : ys.map (·.2) = waysN nd (nd.length - 1)) {k : Key} (hk : k ∈ O) :
    ∃ u a ws z n, WayOf g nd ys k u a ws z n := by
  obtain ⟨u, hu, rfl⟩ := inv.key k (by simpa using hk)
  have e := waysN_at (nd := nd) (nd.length - 1) u (by omega)
  rw [← hways, List.getElem?_map] at e
  cases hyu : ys[u]? with
  | none => rw [hyu] at e; cases e
  | some y =>
    rw [hyu] at e
    have e2 : y.2 = way nd u := Option.some.inj e
    obtain ⟨a, xs, n, e3, e4, e5, hp⟩ := hy y (List.mem_of_getElem? hyu)
    obtain ⟨l, el⟩ := way_last ok hu
    have hsh := ways_short nd hn (nd.length - 1) (by omega) (way nd u) (by rw [← hways, ← e2]; exact List.mem_map_of_mem (List.mem_of_getElem? hyu))
    rcases List.eq_nil_or_concat xs with h | ⟨ws, z, h⟩
    · subst h
      rw [e2, el] at e5
      simp at e5
    · rw [List.concat_eq_append] at h
      subst h
      refine ⟨u, a, ws, z, n, hu, rfl, ?_, e4, e5.trans e2, ?_, hp, ?_⟩
      · rw [keyOf_snd]
        show ys[u]? = _
        rw [hyu]
        obtain ⟨y1, y2⟩ := y
        simp only at e3 e2
        rw [e3, e2]
      · rw [e2, el, List.map_append] at e5
        exact ((List.cons.inj (List.append_inj_right' e5 rfl)).1).symm
      · have := congrArg List.length (e5.trans e2)
        rw [List.length_map] at this
        omega
end Mine
namespace Mine
section
variable {prog : Program} {w : World} {A : Around} {E : Value → Shared → Prop} {s : Shared} {Q : Value → Shared → Prop}
set_option maxHeartbeats 1600000 in
theorem agree_spec {l : Addr} {vs : List Value} {ns : List Int} {k : Nat}
    (hh : A.handled = none) (hd : A.depth + 12 < recursionLimit) (hu : A.units + 1200 < cLine)
    (C : Cx w s.heap) (hl : s.heap.get? l = some (seqObj vs.toArray k)) (hi : IntsAre vs ns) (hz : ns.length ≤ 50) (hb : ∀ n ∈ ns, 0 ≤ n ∧ n < 1000000)
    (ret : ∀ h' tk, Up s.heap h' → Q (.bool true) { s with heap := h', toks := tk }) :
    wpAny (model prog w) A (call (.ref 80) [.ref l]) Q E s := by
  refine enter_def (binds := [("numbers", .ref l)]) [] C.X C.nolimit (by omega) rfl rfl (BindsTo.of_eq rfl) (locs rfl) ?_
  intro L h₁ A' tk hk hL hAh hAd hAu F0
  have F := Fq.of_fr F0
  have N : News (hideAll s.heap []) L h₁ [] := News.nil
  have C0 : Cx w (hideAll s.heap []) := C
  clear F0
  repeat walk_at "hq"
  refine ⟨F.keep, ?_⟩
  refine tree_spec (hAh.trans hh) (by omega) (by omega) (C0.keeps F.keep) (F.keep _ _ hl) hi (by omega) hb ?_
  intro h2 tk2 D xs n up2 eD hT hx
  have htl := tree_len ns
  have hxl : xs.length = ns.length + 1 := by rw [← htl, ← hx, List.length_map]
  have ok : TreeOk (xs.map (·.2)) := by rw [hx]; exact tree_ok ns
  refine after_call F up2 ?_
  intro g2 F2 upg2 upS2
  have C2 := C0.keeps upg2
  have N2 : News g2 L h2 [] := News.nil
  have eD2 : g2.get? D = some (lstObj xs n) := upS2 _ _ _ _ rfl eD
  have hT2 : ∀ x ∈ xs, TupAt g2 x.1 x.2 := fun x hx => (hT x hx).keepsS upS2
  try dsimp only
  repeat walk_at "hq"
  rename_i h2' F2' N2'
  refine ⟨F2'.keep, ?_⟩
  refine walked_spec (hAh.trans hh) (by omega) (by omega) (C2.keeps F2'.keep) (F2'.keep _ _ eD2) (fun x hx => (hT2 x hx).keeps F2'.keep) (by omega) (by omega) ok ?_
  intro h3 tk3 W os n3 up3 eW hpO inv
  refine after_call F2' up3 ?_
  intro g3 F3 upg3 upS3
  have C3 := C2.keeps upg3
  have N3 : News g3 L h3 [] := News.nil
  have eW3 : g3.get? W = some (lstObj os n3) := upS3 _ _ _ _ rfl eW
  have hpO3 : ∀ x ∈ os, PairAt g3 x.1 x.2 := fun x hx => (hpO x hx).keepsS upS3
  try dsimp only
  repeat walk_at "hq"
  rename_i h3' F3' N3'
  refine ⟨F3'.keep, ?_⟩
  refine ways_spec (hAh.trans hh) (by omega) (by omega) (C3.keeps F3'.keep) (F3'.keep _ _ (upg3 _ _ eD2)) (fun x hx => ((hT2 x hx).keeps upg3).keeps F3'.keep) (by omega) (by omega) ok ?_
  intro h4 tk4 Y ys n4 up4 eY hwY hways
  refine after_call F3' up4 ?_
  intro g4 F4 upg4 upS4
  have C4 := C3.keeps upg4
  have N4 : News g4 L h4 [] := News.nil
  have eY4 : g4.get? Y = some (seqObj (List.map (fun y : Value × List Key => y.1) ys).toArray n4) := upS4 _ _ _ _ rfl eY
  have hwY4 : ∀ y ∈ ys, WayAt g4 y.1 y.2 := fun y hy => (hwY y hy).keepsS upS4
  have eW4 := upg4 _ _ eW3
  have hpO4 : ∀ x ∈ os, PairAt g4 x.1 x.2 := fun x hx => (hpO3 x hx).keeps upg4
  have eD4 := upg4 _ _ (upg3 _ _ eD2)
  try dsimp only
  repeat walk_at "hq"
  rename_i h4' F4' N4'
  have few := inv.few
  rw [List.length_map, List.length_map] at few
  refine wpAny_If ?_
  repeat walk_at "hq"
  refine comp_snd g4 (hAh.trans hh) rfl (by decide) rfl (by decide) rfl (by decide) ?_
  repeat walk_at "hq"
  refine ⟨W, os, n3, rfl, F4'.keep, F4'.keep _ _ eW4, hpO4, by simp at few; omega, ?_⟩
  intro D5 h5 tk5 ys5 n5 up5 e5 i5
  have l5 : ys5.length < 64 := by rw [i5.length, List.length_map]; simp at few; omega
  refine after_call F4' up5 ?_
  intro g5 F5 upg5 upS5
  have C5 := C4.keeps upg5
  have N5 : News g5 L h5 [] := News.nil
  try dsimp only
  repeat walk_at "hq"
  refine sorted_up e5 i5 l5 ?_
  intro D6 h6 ys6 ns6 n6 up6 e6 i6 pm6 so6
  refine after_call F5 up6 ?_
  intro g6 F6 upg6 upS6
  have C6 := C5.keeps upg6
  have N6 : News g6 L h6 [] := News.nil
  have e6' : g6.get? D6 = some (seqObj ys6.toArray n6) := upS6 _ _ _ _ rfl e6
  have up46 : Up g4 g6 := upg5.trans upg6
  try dsimp only
  repeat walk_at "hq"
  refine len_q (F6.keep _ _ (up46 _ _ eD4)) (List.length_map ..) (by omega) ?_
  intro t7 tk7
  repeat walk_at "hq"
  refine range1_q F6 N6 ?_
  intro rr g8 h8 t8 u8 v8 tk8 F8 N8 upg8 hr
  have C8 := C6.keeps upg8
  try dsimp only
  repeat walk_at "hq"
  refine list_range_up (n := xs.length) (hAh.trans hh) (F8.keep _ _ hr) (by omega) ?_
  intro D9 h9 tk9 ys9 n9 up9 e9 i9
  refine after_call F8 up9 ?_
  intro g9 F9 upg9 upS9
  have C9 := C8.keeps upg9
  have N9 : News g9 L h9 [] := News.nil
  have up49 : Up g4 g9 := (up46.trans upg8).trans upg9
  have hsort : ns6 = (List.range xs.length).map (fun i : Nat => (i : Int)) := by
    have e := inv.sorted ok (ns := ns6) (by rw [List.map_map]; exact pm6) so6
    rw [List.length_map] at e
    exact e
  try dsimp only
  repeat walk_at "hq"
  refine ne_intsK (PySem.IsL.isList (n := n6) (F9.keep _ _ (upg9 _ _ (upg8 _ _ e6')))) i6 (PySem.IsL.isList (n := n9) e9) i9 (by omega) ?_
  rw [decide_eq_true hsort]
  repeat walk_at "hq"
  refine (if_neg (by decide)).mpr ?_
  repeat walk_at "hq"
  have eW9 := up49 _ _ eW4
  have eY9 := up49 _ _ eY4
  have hpO9 : ∀ x ∈ os, PairAt g9 x.1 x.2 := fun x hx => (hpO4 x hx).keeps up49
  have hwY9 : ∀ y ∈ ys, WayAt g9 y.1 y.2 := fun y hy => (hwY4 y hy).keeps up49
  have hosl : os.length ≤ 51 := by simp at few; omega
  have hysl : ys.length ≤ 51 := by
    have e := congrArg List.length hways
    rw [List.length_map, waysN_length] at e
    omega
  refine wpAny_For ?_
  repeat walk_at "hq"
  try dsimp only
  refine enum_loopQ (vs := List.map (fun x : Itm => x.1) os) (k := n3) (hAh.trans hh) eW9 (fun i g m => m "order" = some (.ref W) ∧ m "ways" = some (.ref Y)) F9 ⟨by walk_at "hplook", by walk_at "hplook"⟩ ?_ ?_
  · rintro i v t g₁ m₁ h tk own hv F₁ N₁ up₁ ⟨m1, m2⟩
    have C10 := C9.keeps up₁
    have hio := (List.getElem?_eq_some_iff.mp hv).1
    rw [List.length_map] at hio
    have hx : os[i]? = some (os[i]'hio) := List.getElem?_eq_getElem hio
    have hv' : v = (os[i]'hio).1 := by
      rw [List.getElem?_map, hx] at hv
      exact (Option.some.inj hv).symm
    have hxm : os[i]'hio ∈ os := List.getElem_mem hio
    have hpx : PairAt g9 (os[i]'hio).1 (os[i]'hio).2 := hpO9 _ hxm
    have hO : (os.map (·.2))[i]? = some (os[i]'hio).2 := by rw [List.getElem?_map, hx]; rfl
    have hW := wayOf inv ok (by rw [List.length_map]; omega) hwY9 (by rw [List.length_map]; exact hways) (List.mem_map_of_mem hxm)
    generalize os[i]'hio = x at *
    subst hv'
    cases hW with | intro u hW => _
    cases hW with | intro a hW => _
    cases hW with | intro ws hW => _
    cases hW with | intro z hW => _
    cases hW with | intro nz hW => _
    have hsh := hW.short
    rw [List.length_map, List.length_append, List.length_singleton] at hsh
    have hk0 : 0 ≤ x.2.2 := by rw [hW.key, keyOf_snd]; omega
    repeat walk_at "hq"
    refine wpAny_If ?_
    repeat walk_at "hq"
    refine pair1_q hpx (fun b o e => F₁.keep _ _ (up₁ _ _ e)) ?_
    intro t11
    refine item_q (xs := ys) (F₁.keep _ _ (up₁ _ _ eY9)) hk0 hW.entry (by omega) ?_
    repeat walk_at "hq"
    refine itemLast_q (xs := ws) (x := z) (F₁.keep _ _ (up₁ _ _ hW.obj)) (by omega) ?_
    refine ne_pair hpx (hW.pairs z (by simp)) (fun b o e => F₁.keep _ _ (up₁ _ _ e)) (by omega) ?_
    rw [decide_eq_true hW.last]
    repeat walk_at "hq"
    refine (if_neg (by decide)).mpr ?_
    try dsimp only
    repeat walk_at "hq"
    refine wpAny_For ?_
    repeat walk_at "hq"
    refine slice_q (vs := List.map (fun x : Itm => x.1) os) (n := n3) F₁ N₁ (F₁.keep _ _ (up₁ _ _ eW9)) (by omega) (by rw [List.length_map]; omega) ?_
    intro D12 g12 h12 F12 N12 up12 e12
    have C12 := C10.keeps up12
    have up912 : Up g9 g12 := up₁.trans up12
    try dsimp only
    refine iter_listQ (vs := (List.map (fun x : Itm => x.1) os).drop ((i : Int) + 1).toNat) (k := 0) (hAh.trans hh) e12 (fun j g m news => news = own ∧ m "order" = some (.ref W) ∧ m "ways" = some (.ref Y) ∧ m "one" = some x.1) F12 N12 ⟨rfl, by walk_at "hplook", by walk_at "hplook", by walk_at "hplook"⟩ ?_ ?_
    · rintro j v' g₂ m₂ news₂ h₂ tk₂ own₂ hv₂ F₂ N₂ up₂ hadr hown ⟨rfl, m3, m4, m5⟩
      have C13 := C12.keeps up₂
      have up92 : Up g9 g₂ := up912.trans up₂
      have hjo := (List.getElem?_eq_some_iff.mp hv₂).1
      have hq2 : (List.map (fun x : Itm => x.1) os)[i + 1 + j]? = some v' := by
        rw [List.getElem?_drop, show ((i : Int) + 1).toNat + j = i + 1 + j by omega] at hv₂
        exact hv₂
      have hio2 := (List.getElem?_eq_some_iff.mp hq2).1
      rw [List.length_map] at hio2
      have hx2 : os[i + 1 + j]? = some (os[i + 1 + j]'hio2) := List.getElem?_eq_getElem hio2
      have hv2' : v' = (os[i + 1 + j]'hio2).1 := by
        rw [List.getElem?_map, hx2] at hq2
        exact (Option.some.inj hq2).symm
      have hxm2 : os[i + 1 + j]'hio2 ∈ os := List.getElem_mem hio2
      have hpx2 : PairAt g9 (os[i + 1 + j]'hio2).1 (os[i + 1 + j]'hio2).2 := hpO9 _ hxm2
      have hO2 : (os.map (·.2))[i + 1 + j]? = some (os[i + 1 + j]'hio2).2 := by rw [List.getElem?_map, hx2]; rfl
      have hW2 := wayOf inv ok (by rw [List.length_map]; omega) hwY9 (by rw [List.length_map]; exact hways) (List.mem_map_of_mem hxm2)
      generalize os[i + 1 + j]'hio2 = x2 at *
      subst hv2'
      cases hW2 with | intro u2 hW2 => _
      cases hW2 with | intro a2 hW2 => _
      cases hW2 with | intro ws2 hW2 => _
      cases hW2 with | intro z2 hW2 => _
      cases hW2 with | intro nz2 hW2 => _
      have hsh2 := hW2.short
      rw [List.length_map] at hsh2
      have hk02 : 0 ≤ x2.2.2 := by rw [hW2.key, keyOf_snd]; omega
      have hah : Ahead (way (xs.map (·.2)) u) (way (xs.map (·.2)) u2) := inv.ahead ok (p := i) (q := i + 1 + j) (by omega) hW.lt hW2.lt (by rw [hO, hW.key]) (by rw [hO2, hW2.key])
      repeat walk_at "hq"
      refine wpAny_If ?_
      repeat walk_at "hq"
      refine isTrue_plain ?_
      repeat walk_at "hq"
      refine pair1_q hpx (fun b o e => F₂.keep _ _ (up92 _ _ e)) ?_
      intro t14
      refine item_q (xs := ys) (F₂.keep _ _ (up92 _ _ eY9)) hk0 hW.entry (by omega) ?_
      repeat walk_at "hq"
      refine pair1_q hpx2 (fun b o e => F₂.keep _ _ (up92 _ _ e)) ?_
      intro t15
      refine item_q (xs := ys) (F₂.keep _ _ (up92 _ _ eY9)) hk02 hW2.entry (by omega) ?_
      repeat walk_at "hq"
      refine ⟨F₂.keep, ?_⟩
      have upx : Up g9 h₂ := fun b o e => F₂.keep _ _ (up92 _ _ e)
      refine ahead_spec (hAh.trans hh) (by omega) (by omega) (C13.keeps F₂.keep) (upx _ _ hW.obj) (upx _ _ hW2.obj) (fun q hq => (hW.pairs q hq).keeps upx) (fun q hq => (hW2.pairs q hq).keeps upx) (by rw [List.length_append, List.length_singleton]; omega) (by omega) (by rw [hW.keys, hW2.keys]; exact hah) ?_
      intro h16 tk16 up16
      repeat walk_at "hq"
      refine (if_neg (by decide)).mpr ?_
      repeat walk_at "hq"
      exact OutQ.intro (F₂.up up16) (News.up N₂ up16) (Up.refl _) ⟨_, rfl, rfl, rfl, m3, m4, m5⟩
    · rintro g₂ m₂ news₂ h₂ tk₂ F₂ N₂ up₂ ⟨rfl, m3, m4, m5⟩
      repeat walk_at "hq"
      exact OutQ.intro F₂ N₂ (up12.trans up₂) ⟨rfl, m3, m4⟩
  · rintro g₁ m₁ h tk F₁ up₁ ⟨m1, m2⟩
    repeat walk_at "hq"
    refine ret _ _ (fun b o e => ?_)
    exact F₁.keep _ _ (up₁ _ _ (up49 _ _ (upg4 _ _ (upg3 _ _ (upg2 _ _ e)))))
end
end Mine
namespace Mine
theorem script_ok (l : List Int) (k : Nat) : ∀ n ∈ l.map (fun k' : Int => k'.fmod (10 ^ Int.toNat 6)) ++ List.drop k [5, 4, 1, 14, 9, 30, 45, 23, 42], 0 ≤ n ∧ n < 1000000 := by
  intro n hn
  rcases List.mem_append.mp hn with h | h
  · obtain ⟨a, _, rfl⟩ := List.mem_map.mp h
    have e : (10 ^ Int.toNat 6 : Int) = 1000000 := by decide
    rw [e]
    exact ⟨Int.fmod_nonneg_of_pos _ (by decide), Int.fmod_lt_of_pos _ (by decide)⟩
  · have := List.mem_of_mem_drop h
    simp only [List.mem_cons, List.not_mem_nil, or_false] at this
    omega
theorem script_len (l : List Int) (k : Nat) : (List.map (fun k' : Int => k'.fmod (10 ^ Int.toNat 6)) (List.take 9 l) ++ List.drop k [5, 4, 1, 14, 9, 30, 45, 23, 42]).length ≤ 50 := by
  rw [List.length_append, List.length_map, List.length_take, List.length_drop]
  simp only [List.length_cons, List.length_nil]
  omega
theorem caller_handled (env : Env) : (callerA.deeper env).handled = none := rfl
theorem caller_depth (env : Env) : (callerA.deeper env).depth + 12 < recursionLimit := by
  show 1 + claimMargin + 1 + 12 < recursionLimit
  decide
theorem caller_units (env : Env) : (callerA.deeper env).units + 1200 < cLine := by
  show 4 + 3 + 1200 < cLine
  decide
section
variable {prog : Program} {w : World} {A : Around} {E : Value → Shared → Prop} {s : Shared} {Q : Value → Shared → Prop}
/-- law's call of _law_agree -/
theorem agree_at {h₀ : Heap} {L D : Addr} {m : Str → Option Value} {news : List (Addr × Obj)} {ws : List Value} {ns : List Int} {nn : Nat} {p : Program} {loose : List Str} {mean : ExcName → Option Value} {mg mb : Str → Option Value}
    (X : (KK w).In h₀) (T : Top p loose mean mg mb h₀) (F : Fr h₀ L s.heap m) (N : News h₀ L s.heap ((D, listOf ws.toArray nn) :: news)) (hI : IntsAre ws ns)
    (hh : A.handled = none) (hd : A.depth + 12 < recursionLimit) (hu : A.units + 1200 < cLine) (hz : ns.length ≤ 50) (hb : ∀ n ∈ ns, 0 ≤ n ∧ n < 1000000)
    (ret : ∀ h' tk, Fr h₀ L h' m → Q (.bool true) { s with heap := h', toks := tk }) : wpAny (model prog w) A (call (.ref 80) [.ref D]) Q E s := by
  have C : Cx w s.heap := Cx.keeps ⟨X, p, loose, mg, mb, topRead_of T⟩ F.keep
  refine agree_spec hh hd hu C (N _ (.head _)).1 hI hz hb fun h' tk up => ret h' tk ?_
  obtain ⟨oL, a1, a2, e, r⟩ := F.ns
  exact ⟨⟨oL, a1, a2, up _ _ e, r⟩, fun b o q => up _ _ (F.keep b o q), F.above⟩
end
end Mine
local macro_rules | `(tactic| walk_at "call ref") => `(tactic| ((with_reducible show wpAny _ _ (call (Value.ref 80) [Value.ref _]) _ _ _); refine Mine.agree_at (by assumption) (by assumption) (by assumption) (by assumption) (by assumption) (Mine.caller_handled _) (Mine.caller_depth _) (Mine.caller_units _) (Mine.script_len _ _) (Mine.script_ok _ _) ?_; intro h' tk' F'))
set_option maxRecDepth 100000 in
set_option maxHeartbeats 8000000 in
theorem PySem.Challenge.cw_mr0007_01_holds : PySem.Challenge.rw_mr0007_01.Holds := by
  exact Mine.hd (by k_go)
