import PyProof.Rows.All
import Wide.All
import OpenK.AllK
import Wide.FinOn
import Lean
import PySem.Challenge.RW_du0010_01
set_option Elab.async false
set_option linter.unusedVariables false

namespace Mine

/-! ### heaps, in plain lists -/
inductive Dsc (s : Nat) : Nat → Prop
  | refl : Dsc s s
  | child {p c : Nat} (h : Dsc s p) (h1 : 1 ≤ c) (hc : (c - 1) / 2 = p) : Dsc s c
theorem Dsc.le {s p : Nat} (h : Dsc s p) : s ≤ p := by
  induction h with
  | refl => omega
  | child h h1 hc ih => omega
theorem Dsc.up {s p : Nat} (h : Dsc s p) (hn : p ≠ s) : Dsc s ((p - 1) / 2) := by
  cases h with
  | refl => exact absurd rfl hn
  | child h h1 hc => rw [hc]; exact h

structure Ord {α : Type} (lo : α → α → Bool) : Prop where
  tr : ∀ a b c, lo b a = false → lo c b = false → lo c a = false
  as : ∀ a b, lo a b = true → lo b a = false

def up {α : Type} (f : Nat → α) (p : Nat) (v : α) : Nat → α := fun i => if i = p then v else f i
theorem up_self {α : Type} {f : Nat → α} {p : Nat} {v : α} : up f p v p = v := if_pos rfl
theorem up_ne {α : Type} {f : Nat → α} {p i : Nat} {v : α} (h : i ≠ p) : up f p v i = f i := if_neg h

def Hp {α : Type} (lo : α → α → Bool) (s n : Nat) (f : Nat → α) : Prop := ∀ i, 1 ≤ i → i < n → s ≤ (i - 1) / 2 → lo (f i) (f ((i - 1) / 2)) = false

structure SdI {α : Type} (lo : α → α → Bool) (x : α) (s n : Nat) (f : Nat → α) (p : Nat) : Prop where
  lt : p < n
  d : Dsc s p
  c1 : ∀ i, 1 ≤ i → i < n → s ≤ (i - 1) / 2 → i ≠ p → (i - 1) / 2 ≠ p → lo (f i) (f ((i - 1) / 2)) = false
  c2 : ∀ c, 1 ≤ c → c < n → (c - 1) / 2 = p → lo (f c) x = false
  c3 : ∀ c, 1 ≤ c → c < n → (c - 1) / 2 = p → p ≠ s → lo (f c) (f ((p - 1) / 2)) = false

section
variable {α : Type} {lo : α → α → Bool} {x : α} {s n p : Nat} {f : Nat → α}

theorem SdI.step (O : Ord lo) (h : SdI lo x s n f p) (hp : s < p) (hl : lo x (f ((p - 1) / 2)) = true) : SdI lo x s n (up f p (f ((p - 1) / 2))) ((p - 1) / 2) := by
  have dq := h.d.up (by omega)
  have sq := dq.le
  have hlt := h.lt
  generalize hq : (p - 1) / 2 = q at *
  have qp : q ≠ p := by omega
  refine ⟨by omega, dq, fun i i1 i2 i3 i4 i5 => ?_, fun c k1 k2 k3 => ?_, fun c k1 k2 k3 k4 => ?_⟩
  · have ip : i ≠ p := fun e => i5 (by rw [e]; exact hq)
    rw [up_ne ip]
    by_cases e : (i - 1) / 2 = p
    · rw [e, up_self]
      have := h.c3 i i1 i2 e (by omega)
      rw [hq] at this; exact this
    · rw [up_ne e]; exact h.c1 i i1 i2 i3 ip e
  · by_cases e : c = p
    · rw [e, up_self]; exact O.as _ _ hl
    · rw [up_ne e]
      have h1 := h.c1 c k1 k2 (by omega) e (by omega)
      rw [k3] at h1
      exact O.tr _ _ _ (O.as _ _ hl) h1
  · have rp : (q - 1) / 2 ≠ p := by omega
    rw [up_ne rp]
    have sr := (dq.up k4).le
    have h0 := h.c1 q (by omega) (by omega) sr qp rp
    by_cases e : c = p
    · rw [e, up_self]; exact h0
    · rw [up_ne e]
      have h1 := h.c1 c k1 k2 (by omega) e (by omega)
      rw [k3] at h1
      exact O.tr _ _ _ h0 h1

theorem SdI.stop (h : SdI lo x s n f p) (hd : ¬ s < p ∨ lo x (f ((p - 1) / 2)) = false) : Hp lo s n (up f p x) := by
  intro i i1 i2 i3
  by_cases e : i = p
  · subst e
    rw [up_self, up_ne (by omega)]
    rcases hd with hd | hd
    · omega
    · exact hd
  · rw [up_ne e]
    by_cases e' : (i - 1) / 2 = p
    · rw [e', up_self]; exact h.c2 i i1 i2 e'
    · rw [up_ne e']; exact h.c1 i i1 i2 i3 e e'

theorem SdI.start (hp : p < n) (d : Dsc s p) (h : ∀ i, 1 ≤ i → i < n → s ≤ (i - 1) / 2 → i ≠ p → lo (f i) (f ((i - 1) / 2)) = false) (hl : n ≤ 2 * p + 1) : SdI lo x s n f p :=
  ⟨hp, d, fun i i1 i2 i3 i4 i5 => h i i1 i2 i3 i4, fun c k1 k2 k3 => by omega, fun c k1 k2 k3 => by omega⟩

structure SuI {α : Type} (lo : α → α → Bool) (s n : Nat) (f : Nat → α) (p : Nat) : Prop where
  lt : p < n
  d : Dsc s p
  c1 : ∀ i, 1 ≤ i → i < n → s ≤ (i - 1) / 2 → i ≠ p → (i - 1) / 2 ≠ p → lo (f i) (f ((i - 1) / 2)) = false
  c2 : ∀ c, 1 ≤ c → c < n → (c - 1) / 2 = p → p ≠ s → lo (f c) (f ((p - 1) / 2)) = false

theorem SuI.start (hs : s < n) (h : Hp lo (s + 1) n f) : SuI lo s n f s :=
  ⟨hs, .refl, fun i i1 i2 i3 i4 i5 => h i i1 i2 (by omega), fun c k1 k2 k3 k4 => absurd rfl k4⟩

theorem SuI.step {c : Nat} (h : SuI lo s n f p) (c0 : 1 ≤ c) (hc : (c - 1) / 2 = p) (cn : c < n) (hsib : ∀ e, 1 ≤ e → e < n → (e - 1) / 2 = p → e ≠ c → lo (f e) (f c) = false) : SuI lo s n (up f p (f c)) c := by
  have sp := h.d.le
  refine ⟨cn, .child h.d c0 hc, fun i i1 i2 i3 i4 i5 => ?_, fun e k1 k2 k3 k4 => ?_⟩
  · by_cases e : i = p
    · subst e
      rw [up_self, up_ne (by omega)]
      exact h.c2 c c0 cn hc (by omega)
    · rw [up_ne e]
      by_cases e' : (i - 1) / 2 = p
      · rw [e', up_self]; exact hsib i i1 i2 e' i4
      · rw [up_ne e']; exact h.c1 i i1 i2 i3 e e'
  · rw [up_ne (by omega), hc, up_self]
    have := h.c1 e k1 k2 (by omega) (by omega) (by omega)
    rw [k3] at this; exact this

theorem SuI.stop (h : SuI lo s n f p) (hl : n ≤ 2 * p + 1) : SdI lo x s n (up f p x) p :=
  .start h.lt h.d (fun i i1 i2 i3 i4 => by
    rw [up_ne i4, up_ne (by omega)]
    exact h.c1 i i1 i2 i3 i4 (by omega)) hl
end

/-! lists -/
def fn {α : Type} (d : α) (xs : List α) : Nat → α := fun i => xs.getD i d
theorem fn_set {α : Type} {d v : α} {xs : List α} {p : Nat} (h : p < xs.length) : fn d (xs.set p v) = up (fn d xs) p v := by
  funext i
  unfold fn up
  by_cases e : i = p
  · subst e; simp [h]
  · rw [if_neg e]
    simp only [List.getD_eq_getElem?_getD]
    rw [List.getElem?_set_ne (fun z => e z.symm)]
theorem fn_get {α : Type} {d y : α} {xs : List α} {p : Nat} (h : xs[p]? = some y) : fn d xs p = y := by
  unfold fn; simp [List.getD_eq_getElem?_getD, h]
theorem perm_step {α : Type} {x : α} {ys : List α} {p c : Nat} (hp : p < ys.length) (hc : c < ys.length) (hne : p ≠ c) : ((ys.set p ys[c]).set c x).Perm (ys.set p x) := by
  have h := List.set_set_perm (as := ys.set p x) (i := p) (j := c) (by simpa using hp) (by simpa using hc)
  simp only [List.getElem_set_self, List.getElem_set_ne hne, List.set_set] at h
  exact h
theorem perm_set_self {α : Type} {x : α} {ys : List α} {p : Nat} (h : ys[p]? = some x) : ys.set p x = ys := by
  apply List.ext_getElem?
  intro i
  by_cases e : p = i
  · subst e; rw [List.getElem?_set_self (List.getElem?_eq_some_iff.mp h).1, h]
  · rw [List.getElem?_set_ne e]
end Mine

namespace Mine

/-! ### rows joined, in plain lists of places -/
def prec (mk : Nat → Int) (p q : Nat) : Prop := mk p < mk q ∨ (mk p = mk q ∧ p < q)
theorem prec.le {mk : Nat → Int} {p q : Nat} (h : prec mk p q) : mk p ≤ mk q := by unfold prec at h; omega

abbrev Tb := List (List Nat × List Nat)
def rowsOf (T : Tb) : List (List Nat) := T.map fun t => t.1 ++ t.2

structure RowsOk (mk : Nat → Int) (R : List (List Nat)) : Prop where
  srt : ∀ r ∈ R, r.Pairwise (prec mk)
  crs : R.Pairwise (fun r u => ∀ q ∈ r, ∀ p ∈ u, q < p)

structure Mg (mk : Nat → Int) (T : Tb) (done : List Nat) : Prop where
  perm : done.Perm (T.map (·.1)).flatten
  srt : done.Pairwise (prec mk)
  lt : ∀ d ∈ done, ∀ t ∈ T, ∀ q ∈ t.2, prec mk d q

/-- how many of the earlier rows' go behind p -/
def addOf (mk : Nat → Int) : List (List Nat) → Nat → Nat
  | [], _ => 0
  | r :: R, p => if p ∈ r then 0 else r.countP (fun q => decide (mk p < mk q)) + addOf mk R p

/-- the heads of the rows that are not yet empty -/
def hds (val : Nat → Int) (sgn : Nat → Int) : Nat → Tb → List (Int × Int)
  | _, [] => []
  | k, (_, []) :: T => hds val sgn (k + 1) T
  | k, (_, p :: _) :: T => (val p, sgn k) :: hds val sgn (k + 1) T

section
variable {mk : Nat → Int} {val sgn : Nat → Int}

theorem hds_app : ∀ (T1 T2 : Tb) (k : Nat), hds val sgn k (T1 ++ T2) = hds val sgn k T1 ++ hds val sgn (k + T1.length) T2
  | [], T2, k => by simp [hds]
  | (a, []) :: T1, T2, k => by
    rw [List.cons_append, hds, hds, hds_app T1 T2 (k + 1), List.length_cons, Nat.add_assoc, Nat.add_comm 1]
  | (a, p :: r) :: T1, T2, k => by
    rw [List.cons_append, hds, hds, hds_app T1 T2 (k + 1), List.length_cons, List.cons_append, Nat.add_assoc, Nat.add_comm 1]
theorem hds_mem : ∀ (T : Tb) (k : Nat) (x : Int × Int), x ∈ hds val sgn k T → ∃ T1 a p r T2, T = T1 ++ (a, p :: r) :: T2 ∧ x = (val p, sgn (k + T1.length))
  | [], _, _, h => by cases h
  | (a, []) :: T, k, x, h => by
    obtain ⟨T1, a', p, r, T2, e, ex⟩ := hds_mem T (k + 1) x h
    exact ⟨(a, []) :: T1, a', p, r, T2, by rw [e]; rfl, by rw [ex, List.length_cons, Nat.add_assoc, Nat.add_comm 1]⟩
  | (a, p :: r) :: T, k, x, h => by
    rw [hds] at h
    rcases List.mem_cons.mp h with rfl | h
    · exact ⟨[], a, p, r, T, rfl, by simp⟩
    · obtain ⟨T1, a', p', r', T2, e, ex⟩ := hds_mem T (k + 1) x h
      exact ⟨(a, p :: r) :: T1, a', p', r', T2, by rw [e]; rfl, by rw [ex, List.length_cons, Nat.add_assoc, Nat.add_comm 1]⟩
theorem hds_has (T1 T2 : Tb) (a r : List Nat) (p k : Nat) : (val p, sgn (k + T1.length)) ∈ hds val sgn k (T1 ++ (a, p :: r) :: T2) := by
  rw [hds_app, hds]; simp
theorem hds_nil : ∀ (T : Tb) (k : Nat), hds val sgn k T = [] → ∀ t ∈ T, t.2 = []
  | [], _, _, _, h => by cases h
  | (a, []) :: T, k, h, t, ht => by
    rcases List.mem_cons.mp ht with rfl | ht
    · rfl
    · exact hds_nil T (k + 1) h t ht
  | (a, p :: r) :: T, k, h, t, ht => by rw [hds] at h; cases h

/-- the least head -/
def LeastAt (mk : Nat → Int) (T : Tb) (j p : Nat) : Prop := ∀ (U1 U2 : Tb) (a r : List Nat) (q : Nat), T = U1 ++ (a, q :: r) :: U2 → ¬ (mk q < mk p ∨ (mk q = mk p ∧ U1.length < j))

theorem row_head {a r : List Nat} {q q' : Nat} (h : (a ++ q :: r).Pairwise (prec mk)) (hq : q' ∈ q :: r) : mk q ≤ mk q' := by
  rcases List.mem_cons.mp hq with rfl | hq
  · exact Int.le_refl _
  · have h2 := (List.pairwise_append.mp h).2.1
    exact ((List.pairwise_cons.mp h2).1 q' hq).le

theorem front_gt {T1 T2 : Tb} {a r : List Nat} {p : Nat} (hr : RowsOk mk (rowsOf (T1 ++ (a, p :: r) :: T2))) (hl : LeastAt mk (T1 ++ (a, p :: r) :: T2) T1.length p) {t : List Nat × List Nat} (ht : t ∈ T1) {q : Nat} (hq : q ∈ t.2) : mk p < mk q := by
  obtain ⟨V1, V2, rfl⟩ := List.append_of_mem ht
  obtain ⟨b, c⟩ := t
  cases c with
  | nil => cases hq
  | cons q0 c =>
    have h1 := hl V1 (V2 ++ (a, p :: r) :: T2) b c q0 (by simp)
    have h2 := hr.srt (b ++ q0 :: c) (by simp [rowsOf])
    have h3 := row_head h2 hq
    simp only [List.length_append, List.length_cons] at h1
    omega

theorem Mg.step {T1 T2 : Tb} {a r done : List Nat} {p : Nat} (hr : RowsOk mk (rowsOf (T1 ++ (a, p :: r) :: T2))) (h : Mg mk (T1 ++ (a, p :: r) :: T2) done) (hl : LeastAt mk (T1 ++ (a, p :: r) :: T2) T1.length p) :
    Mg mk (T1 ++ (a ++ [p], r) :: T2) (done ++ [p]) := by
  refine ⟨?_, ?_, ?_⟩
  · have := h.perm
    simp only [List.map_append, List.map_cons, List.flatten_append, List.flatten_cons] at this ⊢
    refine (this.append_right [p]).trans ?_
    simp only [List.append_assoc]
    refine List.Perm.append_left _ (List.Perm.append_left _ ?_)
    exact List.perm_append_comm
  · refine List.pairwise_append.mpr ⟨h.srt, by simp, fun d hd q hq => ?_⟩
    rw [List.mem_singleton.mp hq]
    exact h.lt d hd (a, p :: r) (by simp) p (by simp)
  · intro d hd t ht q hq
    rcases List.mem_append.mp hd with hd | hd
    · rcases List.mem_append.mp ht with ht | ht
      · exact h.lt d hd t (by simp [ht]) q hq
      · rcases List.mem_cons.mp ht with rfl | ht
        · exact h.lt d hd (a, p :: r) (by simp) q (by simp [show q ∈ r from hq])
        · exact h.lt d hd t (by simp [ht]) q hq
    · rw [List.mem_singleton.mp hd]
      rcases List.mem_append.mp ht with ht | ht
      · exact .inl (front_gt hr hl ht hq)
      · rcases List.mem_cons.mp ht with rfl | ht
        · have h2 := hr.srt (a ++ p :: r) (by simp [rowsOf])
          exact (List.pairwise_cons.mp (List.pairwise_append.mp h2).2.1).1 q hq
        · obtain ⟨V1, V2, rfl⟩ := List.append_of_mem ht
          obtain ⟨b, c⟩ := t
          cases c with
          | nil => cases hq
          | cons q0 c =>
            have h1 := hl (T1 ++ (a, p :: r) :: V1) V2 b c q0 (by simp)
            have h2 := hr.srt (b ++ q0 :: c) (by simp [rowsOf])
            have h3 := row_head h2 hq
            have h4 := hr.crs
            have h5 : p < q := by
              simp only [rowsOf, List.map_append, List.map_cons] at h4
              have h6 := (List.pairwise_cons.mp (List.pairwise_append.mp h4).2.1).1 (b ++ q0 :: c) (by simp) p (by simp) q (List.mem_append_right _ hq)
              exact h6
            unfold prec
            omega

theorem addOf_app {R1 : List (List Nat)} {rw_ : List Nat} {R2 : List (List Nat)} {p : Nat} (hp : p ∈ rw_) (hn : ∀ r ∈ R1, p ∉ r) : addOf mk (R1 ++ rw_ :: R2) p = (R1.map fun r => r.countP (fun q => decide (mk p < mk q))).sum := by
  induction R1 with
  | nil => simp [addOf, hp]
  | cons r R1 ih =>
    rw [List.cons_append, addOf, if_neg (hn r (by simp)), ih fun r' hr' => hn r' (by simp [hr'])]
    simp

theorem Mg.add {T1 T2 : Tb} {a r done : List Nat} {p : Nat} (hr : RowsOk mk (rowsOf (T1 ++ (a, p :: r) :: T2))) (h : Mg mk (T1 ++ (a, p :: r) :: T2) done) (hl : LeastAt mk (T1 ++ (a, p :: r) :: T2) T1.length p) :
    addOf mk (rowsOf (T1 ++ (a, p :: r) :: T2)) p = (T1.map fun t => t.2.length).sum := by
  have e : rowsOf (T1 ++ (a, p :: r) :: T2) = rowsOf T1 ++ (a ++ p :: r) :: rowsOf T2 := by simp [rowsOf]
  rw [e, addOf_app (by simp)]
  · unfold rowsOf
    rw [List.map_map]
    congr 1
    apply List.map_congr_left
    intro t ht
    show (t.1 ++ t.2).countP (fun q => decide (mk p < mk q)) = t.2.length
    rw [List.countP_append]
    have z1 : t.1.countP (fun q => decide (mk p < mk q)) = 0 := by
      rw [List.countP_eq_zero]
      intro q hq
      have hd : q ∈ done := by
        rw [h.perm.mem_iff]
        simp only [List.map_append, List.flatten_append, List.mem_append, List.mem_flatten, List.mem_map]
        exact .inl ⟨t.1, ⟨t, ht, rfl⟩, hq⟩
      have := (h.lt q hd (a, p :: r) (by simp) p (by simp)).le
      simp; omega
    have z2 : t.2.countP (fun q => decide (mk p < mk q)) = t.2.length := by
      rw [List.countP_eq_length]
      intro q hq
      have := front_gt hr hl ht hq
      simpa using this
    omega
  · intro r' hr' hp
    have h4 := hr.crs
    rw [e] at h4
    have := (List.pairwise_append.mp h4).2.2 r' hr' (a ++ p :: r) (by simp) p hp p (by simp)
    omega

theorem Mg.fin {T : Tb} {done : List Nat} (h : Mg mk T done) (he : ∀ t ∈ T, t.2 = []) : done.Perm (rowsOf T).flatten := by
  refine h.perm.trans ?_
  have : T.map (·.1) = rowsOf T := by
    unfold rowsOf
    apply List.map_congr_left
    intro t ht
    rw [he t ht, List.append_nil]
  rw [this]

theorem Mg.start (R : List (List Nat)) : Mg mk (R.map fun r => ([], r)) [] := by
  refine ⟨?_, by simp, fun d hd => by cases hd⟩
  have : (List.map (fun x => x.1) (R.map fun r => (([] : List Nat), r))).flatten = [] := by
    rw [List.flatten_eq_nil_iff]
    intro l hl
    simp at hl
    exact hl.2
  rw [this]
theorem rowsOf_start (R : List (List Nat)) : rowsOf (R.map fun r => ([], r)) = R := by
  unfold rowsOf; rw [List.map_map]; exact List.map_id R

/-! the root is the least -/
theorem hp_root {α : Type} {lo : α → α → Bool} {n : Nat} {f : Nat → α} (O : Ord lo) (h : Hp lo 0 n f) : ∀ i, i < n → lo (f i) (f 0) = false := by
  intro i
  induction i using Nat.strongRecOn with
  | _ i ih =>
    intro hi
    by_cases e : i = 0
    · subst e
      cases q : lo (f 0) (f 0) with
      | false => rfl
      | true => exact (O.as _ _ q).symm.trans q |>.symm ▸ rfl
    · have h1 := h i (by omega) hi (by omega)
      have h2 := ih ((i - 1) / 2) (by omega) (by omega)
      exact O.tr _ _ _ h2 h1
end
end Mine

namespace Mine

theorem countP_or {α : Type} {f g : α → Bool} : ∀ (l : List α), (∀ x ∈ l, f x = true → g x = false) → l.countP (fun x => f x || g x) = l.countP f + l.countP g
  | [], _ => rfl
  | x :: l, h => by
    have ih := countP_or l fun y hy => h y (.tail _ hy)
    rw [List.countP_cons, List.countP_cons, List.countP_cons, ih]
    have hx := h x (.head _)
    cases hf : f x with
    | true => rw [hx hf]; simp; omega
    | false => cases g x <;> simp <;> omega
theorem countP_lt {α : Type} {f g : α → Bool} : ∀ (l : List α), (∀ x ∈ l, f x = true → g x = true) → (∃ x ∈ l, f x = false ∧ g x = true) → l.countP f < l.countP g
  | [], _, ⟨x, hx, _⟩ => by cases hx
  | y :: l, h, ⟨x, hx, h1, h2⟩ => by
    rw [List.countP_cons, List.countP_cons]
    have hle : l.countP f ≤ l.countP g := List.countP_mono_left fun z hz => h z (.tail _ hz)
    rcases List.mem_cons.mp hx with rfl | hx
    · rw [h1, h2]; simp; omega
    · have ih := countP_lt l (fun z hz => h z (.tail _ hz)) ⟨x, hx, h1, h2⟩
      have := h y (.head _)
      cases hf : f y with
      | true => rw [this hf]; simp; omega
      | false => cases g y <;> simp <;> omega

def precB (mk : Nat → Int) (p q : Nat) : Bool := decide (mk q < mk p) || (decide (mk q = mk p) && decide (q < p))
theorem precB_iff {mk : Nat → Int} {p q : Nat} : precB mk p q = true ↔ prec mk q p := by unfold precB prec; simp
theorem precB_not {mk : Nat → Int} {p q : Nat} : precB mk p q = false ↔ ¬ prec mk q p := by rw [← precB_iff]; simp

/-- what the law's order reckons -/
def rankOf (mk : Nat → Int) (N p : Nat) : Nat := (List.range N).countP (fun q => decide (mk q < mk p)) + (List.range p).countP (fun q => decide (mk q = mk p))
theorem rank_eq {mk : Nat → Int} {N p : Nat} (hp : p < N) : rankOf mk N p = (List.range N).countP (precB mk p) := by
  unfold rankOf precB
  rw [countP_or]
  · congr 1
    obtain ⟨k, rfl⟩ : ∃ k, N = p + k := ⟨N - p, by omega⟩
    rw [List.range_add, List.countP_append]
    have h1 : (List.range p).countP (fun q => decide (mk q = mk p) && decide (q < p)) = (List.range p).countP (fun q => decide (mk q = mk p)) := by
      apply List.countP_congr
      intro q hq
      have : q < p := List.mem_range.mp hq
      simp [this]
    have h2 : ((List.range k).map (p + ·)).countP (fun q => decide (mk q = mk p) && decide (q < p)) = 0 := by
      rw [List.countP_eq_zero]
      intro q hq
      obtain ⟨i, _, rfl⟩ := List.mem_map.mp hq
      simp
    rw [h1, h2]; rfl
  · intro q _ h
    simp at h ⊢
    omega
theorem rank_lt {mk : Nat → Int} {N p : Nat} (hp : p < N) : rankOf mk N p < N := by
  rw [rank_eq hp]
  have := countP_lt (f := precB mk p) (g := fun _ => true) (List.range N) (fun _ _ _ => rfl) ⟨p, List.mem_range.mpr hp, by rw [precB_not]; unfold prec; omega, rfl⟩
  simpa using this
theorem rank_inj {mk : Nat → Int} {N p q : Nat} (hp : p < N) (hq : q < N) (hne : p ≠ q) : rankOf mk N p ≠ rankOf mk N q := by
  have key : ∀ p q, p < N → q < N → prec mk p q → rankOf mk N p < rankOf mk N q := fun p q hp hq h => by
    rw [rank_eq hp, rank_eq hq]
    refine countP_lt _ (fun x _ hx => ?_) ⟨p, List.mem_range.mpr hp, by rw [precB_not]; unfold prec; omega, by rw [precB_iff]; exact h⟩
    rw [precB_iff] at hx ⊢
    unfold prec at *
    omega
  have tot : prec mk p q ∨ prec mk q p := by unfold prec; omega
  rcases tot with h | h
  · have := key p q hp hq h; omega
  · have := key q p hq hp h; omega
theorem sorted_at {mk : Nat → Int} {N j p : Nat} {done : List Nat} (hs : done.Pairwise (prec mk)) (hp : done.Perm (List.range N)) (h : done[j]? = some p) : rankOf mk N p = j := by
  have hm : p ∈ List.range N := hp.mem_iff.mp (List.mem_of_getElem? h)
  rw [rank_eq (List.mem_range.mp hm), ← hp.countP_eq]
  obtain ⟨hj, e⟩ := List.getElem?_eq_some_iff.mp h
  have ed : done = done.take j ++ p :: done.drop (j + 1) := by rw [← e]; simp
  rw [ed] at hs
  rw [ed, List.countP_append]
  obtain ⟨h1, h2, h3⟩ := List.pairwise_append.mp hs
  have c1 : (done.take j).countP (precB mk p) = j := by
    have : (done.take j).countP (precB mk p) = (done.take j).length := by
      rw [List.countP_eq_length]
      intro q hq
      rw [precB_iff]
      exact h3 q hq p (by simp)
    rw [this, List.length_take]; omega
  have c2 : (p :: done.drop (j + 1)).countP (precB mk p) = 0 := by
    rw [List.countP_eq_zero]
    intro q hq
    have : precB mk p q = false := by
      rw [precB_not]
      rcases List.mem_cons.mp hq with rfl | hq
      · unfold prec; omega
      · have := (List.pairwise_cons.mp h2).1 q hq
        unfold prec at *; omega
    rw [this]; simp
  rw [c1, c2]; rfl

/-! ### the pile -/
def Pl (mk : Nat → Int) (cnt : Nat → Int) : Nat → List (List Nat) → Prop
  | _, [] => True
  | a, r :: P => r ≠ [] ∧ r.Pairwise (prec mk) ∧ r.Perm (List.range' a r.length) ∧ (∀ p ∈ r, cnt p = ((List.range' a (p - a)).countP (fun q => decide (mk p < mk q)) : Int)) ∧ Pl mk cnt (a + r.length) P
section
variable {mk : Nat → Int} {cnt cnt' : Nat → Int}
theorem Pl.app : ∀ {P1 P2 : List (List Nat)} {a : Nat}, Pl mk cnt a (P1 ++ P2) ↔ Pl mk cnt a P1 ∧ Pl mk cnt (a + P1.flatten.length) P2
  | [], P2, a => by simp [Pl]
  | r :: P1, P2, a => by
    rw [List.cons_append, Pl, Pl, Pl.app (P1 := P1)]
    simp only [List.flatten_cons, List.length_append, Nat.add_assoc, and_assoc]
theorem Pl.perm : ∀ {P : List (List Nat)} {a : Nat}, Pl mk cnt a P → P.flatten.Perm (List.range' a P.flatten.length)
  | [], a, _ => by simp
  | r :: P, a, h => by
    rw [Pl] at h
    have ih := Pl.perm h.2.2.2.2
    rw [List.flatten_cons, List.length_append, ← List.range'_append_1]
    exact h.2.2.1.append ih
theorem Pl.mem {P : List (List Nat)} {a p : Nat} (h : Pl mk cnt a P) (hp : p ∈ P.flatten) : a ≤ p ∧ p < a + P.flatten.length := by
  have := h.perm.mem_iff.mp hp
  simpa [List.mem_range'_1] using this
theorem Pl.congr : ∀ {P : List (List Nat)} {a : Nat}, (∀ p ∈ P.flatten, cnt' p = cnt p) → Pl mk cnt a P → Pl mk cnt' a P
  | [], a, _, _ => trivial
  | r :: P, a, e, h => by
    rw [Pl] at h ⊢
    refine ⟨h.1, h.2.1, h.2.2.1, fun p hp => ?_, Pl.congr (fun p hp => e p ?_) h.2.2.2.2⟩
    · rw [e p (by simp [hp])]; exact h.2.2.2.1 p hp
    · rw [List.flatten_cons]; exact List.mem_append_right _ hp
theorem Pl.rows : ∀ {P : List (List Nat)} {a : Nat}, Pl mk cnt a P → RowsOk mk P
  | [], a, _ => ⟨(fun r hr => by cases hr), List.Pairwise.nil⟩
  | r :: P, a, h => by
    rw [Pl] at h
    have ih := Pl.rows h.2.2.2.2
    refine ⟨fun r' hr => ?_, List.pairwise_cons.mpr ⟨fun u hu q hq p hp => ?_, ih.crs⟩⟩
    · rcases List.mem_cons.mp hr with rfl | hr
      · exact h.2.1
      · exact ih.srt r' hr
    · have h1 := h.2.2.1.mem_iff.mp hq
      have h2 := Pl.mem h.2.2.2.2 (List.mem_flatten.mpr ⟨u, hu, hp⟩)
      rw [List.mem_range'_1] at h1
      omega
theorem Pl.ne : ∀ {P : List (List Nat)} {a : Nat}, Pl mk cnt a P → ∀ r ∈ P, r ≠ []
  | [], _, _, _, h => by cases h
  | r :: P, a, h, r', hr => by
    rw [Pl] at h
    rcases List.mem_cons.mp hr with rfl | hr
    · exact h.1
    · exact Pl.ne h.2.2.2.2 r' hr
theorem Pl.total : ∀ {P : List (List Nat)} {a p : Nat}, Pl mk cnt a P → p ∈ P.flatten → cnt p + (addOf mk P p : Int) = ((List.range' a (p - a)).countP (fun q => decide (mk p < mk q)) : Int)
  | [], _, _, _, h => by simp at h
  | r :: P, a, p, h, hp => by
    rw [Pl] at h
    by_cases hr : p ∈ r
    · rw [addOf, if_pos hr, h.2.2.2.1 p hr]; omega
    · have hp' : p ∈ P.flatten := by
        rw [List.flatten_cons] at hp
        exact (List.mem_append.mp hp).resolve_left hr
      have ih := Pl.total h.2.2.2.2 hp'
      have hm := Pl.mem h.2.2.2.2 hp'
      rw [addOf, if_neg hr, h.2.2.1.countP_eq]
      have e : List.range' a (p - a) = List.range' a r.length ++ List.range' (a + r.length) (p - (a + r.length)) := by
        rw [List.range'_append_1]; congr 1; omega
      rw [e, List.countP_append]
      omega
/-- rows joined -/
theorem Pl.join {P : List (List Nat)} {a : Nat} {done : List Nat} (h : Pl mk cnt a P) (hne : P ≠ []) (hs : done.Pairwise (prec mk)) (hp : done.Perm P.flatten) (hc : ∀ p ∈ P.flatten, cnt' p = cnt p + (addOf mk P p : Int)) : Pl mk cnt' a [done] := by
  have hl := hp.length_eq
  refine ⟨?_, hs, ?_, fun p hm => ?_, trivial⟩
  · intro e
    subst e
    cases P with
    | nil => exact hne rfl
    | cons r P =>
      rw [Pl] at h
      have : r.length = 0 := by simp at hl; omega
      exact h.1 (List.length_eq_zero_iff.mp this)
  · rw [hl]; exact hp.trans h.perm
  · have hm' := hp.mem_iff.mp hm
    rw [hc p hm']; exact h.total hm'
end
end Mine

open PySem PySem.W PyProof.Rows

namespace Mine

/-! ## the ledger -/

structure It where
  a : Addr
  ok : Obj → Prop

def fr (L : Addr) (m : Str → Option Value) : It :=
  ⟨L, fun o => ∃ es ep, o.data = .dict es ep ∧ StrKeys es ∧ ∀ name, nsFind es name = m name⟩
def ls (a : Addr) (xs : List Value) : It := ⟨a, fun o => xs.length ≤ 1000 ∧ ∃ n, o = listOf xs.toArray n⟩
def cl (a : Addr) (v : Option Value) : It := ⟨a, fun o => o.data = .cell v⟩
def ob (a : Addr) (x : Obj) : It := ⟨a, fun o => o = x⟩
def tupO (xs : List Value) : Obj := { cls := .type "tuple", data := .seq xs.toArray }

abbrev Base := Addr → Option Obj
def Base.le (β β' : Base) : Prop := ∀ b o, β b = some o → β' b = some o
theorem Base.le.refl (β : Base) : β.le β := fun _ _ e => e
theorem Base.le.trans {β β' β'' : Base} (x : β.le β') (y : β'.le β'') : β.le β'' := fun b o e => y b o (x b o e)
def Base.add (β : Base) (a : Addr) (o : Obj) : Base := fun b => if b = a then some o else β b
theorem Base.le_add {β : Base} {a : Addr} {o : Obj} (h : β a = none) : β.le (β.add a o) := fun b o' e => by
  unfold Base.add
  by_cases x : b = a
  · subst x; rw [h] at e; cases e
  · rw [if_neg x]; exact e
theorem Base.add_self {β : Base} {a : Addr} {o : Obj} : (β.add a o) a = some o := by simp [Base.add]

structure Led (β : Base) (σ : List It) (h : Heap) : Prop where
  kn : ∀ b o, β b = some o → h.get? b = some o
  own : ∀ i ∈ σ, ∃ o, h.get? i.a = some o ∧ i.ok o
  ap : ∀ i ∈ σ, β i.a = none
  nd : (σ.map (·.a)).Nodup

inductive UpI (x y : It) : List It → List It → Prop
  | head {σ : List It} : UpI x y (x :: σ) (y :: σ)
  | tail {j : It} {σ σ' : List It} (u : UpI x y σ σ') : UpI x y (j :: σ) (j :: σ')

section
variable {β β' : Base} {σ σ' : List It} {h h' : Heap} {i i' : It} {o : Obj}

theorem Led.keeps (x : Led β σ h) (k : ∀ b o, h.get? b = some o → h'.get? b = some o) : Led β σ h' :=
  ⟨fun b o e => k b o (x.kn b o e), fun i hi => let ⟨o, e, r⟩ := x.own i hi; ⟨o, k _ _ e, r⟩, x.ap, x.nd⟩
theorem Led.push (x : Led β σ h) (o : Obj) : Led β σ (h.push o) := x.keeps fun _ _ e => Heap.get?_push_of_some o e

theorem Led.lt (x : Led β σ h) (hi : i ∈ σ) : i.a < h.objs.size := let ⟨_, e, _⟩ := x.own i hi; Heap.lt_size e

theorem Led.fresh_none (x : Led β σ h) : β h.objs.size = none := by
  cases q : β h.objs.size with
  | none => rfl
  | some o => exact absurd (Heap.lt_size (x.kn _ _ q)) (Nat.lt_irrefl _)

theorem Led.new (x : Led β σ h) (o : Obj) (ha : i.a = h.objs.size) (ho : i.ok o) (hf : o.isFreed = false) : Led β (i :: σ) (h.push o) where
  kn := (x.push o).kn
  own := fun j hj => by
    rcases List.mem_cons.mp hj with rfl | hj
    · exact ⟨o, by rw [ha]; exact Heap.get?_push_size _ hf, ho⟩
    · exact (x.push o).own j hj
  ap := fun j hj => by
    rcases List.mem_cons.mp hj with rfl | hj
    · rw [ha]; exact x.fresh_none
    · exact x.ap j hj
  nd := by
    rw [List.map_cons, List.nodup_cons]
    refine ⟨fun q => ?_, x.nd⟩
    obtain ⟨j, hj, e⟩ := List.mem_map.mp q
    have := x.lt hj
    rw [e, ha] at this
    exact Nat.lt_irrefl _ this

theorem Led.tail (x : Led β (i :: σ) h) : Led β σ h :=
  ⟨x.kn, fun j hj => x.own j (.tail _ hj), fun j hj => x.ap j (.tail _ hj), (List.nodup_cons.mp x.nd).2⟩

theorem Led.weak (x : Led β' σ h) (l : β.le β') : Led β σ h :=
  ⟨fun b o e => x.kn b o (l b o e), x.own, fun j hj => (by
    cases q : β j.a with
    | none => rfl
    | some o => have := l _ _ q; rw [x.ap j hj] at this; cases this), x.nd⟩

theorem Led.perm (x : Led β σ h) (p : σ.Perm σ') : Led β σ' h :=
  ⟨x.kn, fun j hj => x.own j (p.mem_iff.mpr hj), fun j hj => x.ap j (p.mem_iff.mpr hj), ((p.map _).nodup_iff).mp x.nd⟩

theorem UpI.mem : ∀ {σ σ' : List It}, UpI i i' σ σ' → i ∈ σ
  | _, _, .head => .head _
  | _, _, .tail u => .tail _ u.mem
theorem UpI.addrs (e : i'.a = i.a) : ∀ {σ σ' : List It}, UpI i i' σ σ' → σ'.map (·.a) = σ.map (·.a)
  | _, _, .head => by simp [e]
  | _, _, .tail u => by simp [u.addrs e]
theorem UpI.mem' : ∀ {σ σ' : List It}, UpI i i' σ σ' → (σ.map (·.a)).Nodup → ∀ j ∈ σ', j = i' ∨ (j ∈ σ ∧ j.a ≠ i.a)
  | _, _, .head (σ := σ), nd, j, hj => by
    rcases List.mem_cons.mp hj with rfl | hj
    · exact .inl rfl
    · refine .inr ⟨.tail _ hj, fun e => ?_⟩
      rw [List.map_cons, List.nodup_cons] at nd
      exact nd.1 (List.mem_map.mpr ⟨j, hj, e⟩)
  | _, _, .tail (j := k) (σ := σ) u, nd, j, hj => by
    rw [List.map_cons, List.nodup_cons] at nd
    rcases List.mem_cons.mp hj with rfl | hj
    · exact .inr ⟨.head _, fun e => nd.1 (List.mem_map.mpr ⟨i, u.mem, e.symm⟩)⟩
    · rcases u.mem' nd.2 j hj with r | ⟨r, q⟩
      · exact .inl r
      · exact .inr ⟨.tail _ r, q⟩

theorem Led.upd (x : Led β σ h) (u : UpI i i' σ σ') (e : i'.a = i.a) (hs : ∀ b o, b ≠ i.a → h.get? b = some o → h'.get? b = some o)
    (hn : ∃ o, h'.get? i.a = some o ∧ i'.ok o) : Led β σ' h' where
  kn := fun b o q => hs b o (fun z => by have := x.ap i u.mem; rw [← z, q] at this; cases this) (x.kn b o q)
  own := fun j hj => by
    rcases u.mem' x.nd j hj with rfl | ⟨r, q⟩
    · rw [e]; exact hn
    · obtain ⟨o, g, k⟩ := x.own j r
      exact ⟨o, hs _ _ q g, k⟩
  ap := fun j hj => by
    rcases u.mem' x.nd j hj with rfl | ⟨r, _⟩
    · rw [e]; exact x.ap i u.mem
    · exact x.ap j r
  nd := by rw [u.addrs e]; exact x.nd

theorem Led.freeze (x : Led β (i :: σ) h) : ∃ o, i.ok o ∧ h.get? i.a = some o ∧ Led (β.add i.a o) σ h := by
  obtain ⟨o, e, k⟩ := x.own i (.head _)
  refine ⟨o, k, e, fun b o' q => ?_, x.tail.own, fun j hj => ?_, x.tail.nd⟩
  · unfold Base.add at q
    by_cases z : b = i.a
    · rw [if_pos z] at q; cases q; rw [z]; exact e
    · rw [if_neg z] at q; exact x.kn b o' q
  · unfold Base.add
    rw [if_neg fun z => ?_]
    · exact x.tail.ap j hj
    · have := (List.nodup_cons.mp x.nd).1
      exact this (List.mem_map.mpr ⟨j, hj, z⟩)

theorem Led.ns {L : Addr} {m : Str → Option Value} (x : Led β σ h) (hm : fr L m ∈ σ) : h.Ns L m := by
  obtain ⟨o, e, es, ep, r⟩ := x.own _ hm
  exact ⟨o, es, ep, e, r⟩
theorem Led.isCell {c : Addr} {v : Option Value} (x : Led β σ h) (hm : cl c v ∈ σ) : h.IsCell c v := by
  obtain ⟨o, e, r⟩ := x.own _ hm
  exact ⟨o, e, r⟩
theorem Led.getL {a : Addr} {xs : List Value} (x : Led β σ h) (hm : ls a xs ∈ σ) : xs.length ≤ 1000 ∧ ∃ n, h.get? a = some (listOf xs.toArray n) := by
  obtain ⟨o, e, b, n, rfl⟩ := x.own _ hm
  exact ⟨b, n, e⟩
theorem Led.isList {a : Addr} {xs : List Value} (x : Led β σ h) (hm : ls a xs ∈ σ) : h.IsList a xs.toArray := by
  obtain ⟨b, n, e⟩ := x.getL hm
  exact ⟨_, e, rfl, n, rfl⟩
end

/-! ## triples -/
def Sm (s s' : Shared) : Prop := s'.gens = s.gens ∧ s'.os = s.os
theorem Sm.refl (s : Shared) : Sm s s := ⟨rfl, rfl⟩
theorem Sm.trans {s s' s'' : Shared} (x : Sm s s') (y : Sm s' s'') : Sm s s'' := ⟨y.1.trans x.1, y.2.trans x.2⟩

def Tr {α : Type} (M : Model) (A : Around) (t : Sem α) (P : Heap → Prop) (R : α → Heap → Prop) : Prop :=
  ∀ s : Shared, P s.heap → wpAny M A t (fun v s' => Sm s s' ∧ R v s'.heap) (fun _ _ => False) s

section
variable {α γ : Type} {M : Model} {A : Around} {P P' : Heap → Prop} {R R' : α → Heap → Prop}

theorem Tr.mono {t : Sem α} (x : Tr M A t P R) (hR : ∀ v h, R v h → R' v h) : Tr M A t P R' :=
  fun s hp => wpAny_mono (x s hp) (fun v _ q => ⟨q.1, hR v _ q.2⟩) fun _ _ q => q
theorem Tr.pre {t : Sem α} (x : Tr M A t P R) (hP : ∀ h, P' h → P h) : Tr M A t P' R := fun s hp => x s (hP _ hp)
theorem Tr.pure {a : α} (h : ∀ g, P g → R a g) : Tr M A (Pure.pure a) P R := fun s hp => wpAny_pure ⟨Sm.refl s, h _ hp⟩
theorem Tr.bind {t : Sem α} {f : α → Sem γ} {S : γ → Heap → Prop} (x : Tr M A t P R) (y : ∀ a, Tr M A (f a) (R a) S) : Tr M A (t >>= f) P S :=
  fun s hp => wpAny_bind (wpAny_mono (x s hp) (fun v s' q => wpAny_mono (y v s' q.2) (fun _ _ r => ⟨q.1.trans r.1, r.2⟩) fun _ _ r => r) fun _ _ q => q)
theorem Tr.standAt {p : Pos} {S : Unit → Heap → Prop} (h : ∀ g, P g → S () g) : Tr M A (PySem.standAt p) P S := fun s hp => wpAny_standAt ⟨Sm.refl s, h _ hp⟩
theorem Tr.holding {t : Sem α} {vs : List Value} (x : Tr M A t P R) : Tr M A (PySem.holding vs t) P R := fun s hp => wpAny_holding (x s hp)
theorem Tr.use {t : Sem α} (x : Tr M A t P R) {Q : α → Shared → Prop} {E : Value → Shared → Prop} {s : Shared} (hp : P s.heap)
    (hq : ∀ v s', Sm s s' → R v s'.heap → Q v s') : wpAny M A t Q E s := wpAny_mono (x s hp) (fun v s' q => hq v s' q.1 q.2) fun _ _ q => q.elim
theorem Tr.ex {ι : Type} {t : Sem α} {P : ι → Heap → Prop} (x : ∀ y, Tr M A t (P y) R) : Tr M A t (fun h => ∃ y, P y h) R := fun s ⟨y, hp⟩ => x y s hp
theorem Tr.and {t : Sem α} {C : Prop} (x : C → Tr M A t P R) : Tr M A t (fun h => C ∧ P h) R := fun s ⟨c, hp⟩ => x c s hp
end
end Mine

namespace Mine

def Ev (prog : Program) (w : World) (A : Around) (env : Env) (β : Base) (σ : List It) (e : Expr) (V : Value → Prop) : Prop :=
  Tr (model prog w) A (eval e env) (Led β σ) (fun v h => V v ∧ Led β σ h)
def Ts (prog : Program) (w : World) (A : Around) (env : Env) (β : Base) (σ : List It) (e : Expr) (c : Bool) : Prop :=
  Tr (model prog w) A (PySem.isTrue e env (eval e env)) (Led β σ) (fun b h => b = c ∧ Led β σ h)
def Ex (prog : Program) (w : World) (A : Around) (env : Env) (ss : List Stmt) (P : Heap → Prop) (R : Flow → Heap → Prop) : Prop :=
  Tr (model prog w) A (execs ss env) P R

def IsI (i : Int) (v : Value) : Prop := ∃ t, v = .int i t
theorem IsI.mk {i : Int} {t : Tok} : IsI i (.int i t) := ⟨t, rfl⟩
theorem IsI.of {i j : Int} {v : Value} (x : IsI i v) (e : i = j) : IsI j v := e ▸ x

def NsB (β : Base) (a : Addr) (m : Str → Option Value) : Prop :=
  ∃ o es ep, β a = some o ∧ o.data = .dict es ep ∧ StrKeys es ∧ ∀ name, nsFind es name = m name
theorem NsB.le {β β' : Base} {a : Addr} {m : Str → Option Value} (x : NsB β a m) (l : β.le β') : NsB β' a m :=
  let ⟨o, es, ep, e, r⟩ := x; ⟨o, es, ep, l _ _ e, r⟩
theorem Led.nsB {β : Base} {σ : List It} {h : Heap} {a : Addr} {m : Str → Option Value} (x : Led β σ h) (n : NsB β a m) : h.Ns a m :=
  let ⟨o, es, ep, e, r⟩ := n; ⟨o, es, ep, x.kn _ _ e, r⟩
/-- a frozen list, a frozen tuple -/
def LsB (β : Base) (a : Addr) (xs : List Value) : Prop := xs.length ≤ 1000 ∧ ∃ n, β a = some (listOf xs.toArray n)
def TpB (β : Base) (a : Addr) (xs : List Value) : Prop := β a = some (tupO xs)
theorem LsB.le {β β' : Base} {a : Addr} {xs : List Value} (x : LsB β a xs) (l : β.le β') : LsB β' a xs := ⟨x.1, let ⟨n, e⟩ := x.2; ⟨n, l _ _ e⟩⟩
theorem TpB.le {β β' : Base} {a : Addr} {xs : List Value} (x : TpB β a xs) (l : β.le β') : TpB β' a xs := l _ _ x
theorem Led.isListB {β : Base} {σ : List It} {h : Heap} {a : Addr} {xs : List Value} (x : Led β σ h) (n : LsB β a xs) : h.IsList a xs.toArray :=
  let ⟨_, n, e⟩ := n; ⟨_, x.kn _ _ e, rfl, n, rfl⟩
theorem Led.isTup {β : Base} {σ : List It} {h : Heap} {a : Addr} {xs : List Value} (x : Led β σ h) (n : TpB β a xs) : IsTup h a xs.toArray :=
  ⟨_, x.kn _ _ n, rfl, 0, rfl⟩
theorem Led.isTuple {β : Base} {σ : List It} {h : Heap} {a : Addr} {xs : List Value} (x : Led β σ h) (n : TpB β a xs) : h.IsTuple a xs.toArray :=
  ⟨_, x.kn _ _ n, rfl, 0, rfl⟩
/-- a list, wherever it stands -/
def LsA (β : Base) (σ : List It) (a : Addr) (xs : List Value) : Prop := ls a xs ∈ σ ∨ LsB β a xs
theorem Led.isListA {β : Base} {σ : List It} {h : Heap} {a : Addr} {xs : List Value} (x : Led β σ h) (n : LsA β σ a xs) : h.IsList a xs.toArray :=
  n.elim x.isList x.isListB
theorem Led.lenA {β : Base} {σ : List It} {h : Heap} {a : Addr} {xs : List Value} (x : Led β σ h) (n : LsA β σ a xs) : xs.length ≤ 1000 :=
  n.elim (fun q => (x.getL q).1) fun q => q.1

section
variable {prog : Program} {w : World} {A : Around} {env : Env} {β : Base} {σ : List It} {V V1 V2 : Value → Prop}

theorem Ev.mono {e : Expr} (x : Ev prog w A env β σ e V) (h : ∀ v, V v → V1 v) : Ev prog w A env β σ e V1 := Tr.mono x fun v _ q => ⟨h v q.1, q.2⟩

/-! names -/
theorem ev_name {x : Str} {pos : Pos} {m : Str → Option Value} {v : Value} (hm : fr env.locals m ∈ σ) (hv : m x = some v)
    (hk : env.scope.kind = .function := by rfl) (hl : env.kindOf x = some .local := by rfl) (hd : (x == ("__debug__" : Str)) = false := by decide) :
    Ev prog w A env β σ (.Name x pos) (· = v) := fun s hp => wpAny_Name (wpAny_loadName_local hk hl (hp.ns hm) hv ⟨Sm.refl s, rfl, hp⟩) hd
theorem ev_cell {x : Str} {pos : Pos} {c : Addr} {v : Value} (hm : cl c (some v) ∈ σ) (hc : env.cells.lookup x = some c)
    (hk : env.scope.kind = .function := by rfl) (hl : env.kindOf x = some .cell := by rfl) (hd : (x == ("__debug__" : Str)) = false := by decide) :
    Ev prog w A env β σ (.Name x pos) (· = v) := fun s hp => wpAny_Name (wpAny_loadName_cell hk hl hc (hp.isCell hm) ⟨Sm.refl s, rfl, hp⟩) hd
theorem ev_free {x : Str} {pos : Pos} {c : Addr} {v : Value} (hm : cl c (some v) ∈ σ) (hc : env.cells.lookup x = some c)
    (hk : env.scope.kind = .function := by rfl) (hl : env.kindOf x = some .free := by rfl) (hd : (x == ("__debug__" : Str)) = false := by decide) (hn : (x == ("__classdict__" : Str)) = false := by decide) :
    Ev prog w A env β σ (.Name x pos) (· = v) := fun s hp => wpAny_Name (wpAny_loadName_free hk hl hc (hp.isCell hm) ⟨Sm.refl s, rfl, hp⟩ hn) hd
theorem ev_glob {x : Str} {pos : Pos} {mg : Str → Option Value} {v : Value} (hg : NsB β env.globals mg) (hv : mg x = some v)
    (hk : env.scope.kind = .function := by rfl) (hl : env.kindOf x = some .globalImplicit := by rfl) (hd : (x == ("__debug__" : Str)) = false := by decide) :
    Ev prog w A env β σ (.Name x pos) (· = v) := fun s hp => wpAny_Name (by
      rw [loadName_read hk hl]; exact Calls.loadGlobal_global (hp.nsB hg) hv ⟨Sm.refl s, rfl, hp⟩) hd
theorem ev_builtin {x : Str} {pos : Pos} {mg mb : Str → Option Value} {v : Value} (hg : NsB β env.globals mg) (hv : mg x = none) (hb : NsB β env.builtins mb) (hw : mb x = some v)
    (hk : env.scope.kind = .function := by rfl) (hl : env.kindOf x = some .globalImplicit := by rfl) (hd : (x == ("__debug__" : Str)) = false := by decide) :
    Ev prog w A env β σ (.Name x pos) (· = v) := fun s hp => wpAny_Name (by
      rw [loadName_read hk hl]; exact Calls.loadGlobal_builtin (hp.nsB hg) hv (hp.nsB hb) hw ⟨Sm.refl s, rfl, hp⟩) hd

/-! constants -/
theorem ev_int {i : Int} {k : Nat} {pos : Pos} : Ev prog w A env β σ (.Constant (.int i) k pos) (IsI i) := fun _ hp => wpAny_Constant_int ⟨⟨rfl, rfl⟩, ⟨_, rfl⟩, hp⟩
theorem ev_none {k : Nat} {pos : Pos} : Ev prog w A env β σ (.Constant .none k pos) (· = .none) := fun s hp => by
  show wpAny _ _ (constValue env .none) _ _ s
  exact wpAny_pure ⟨Sm.refl s, rfl, hp⟩

/-! operators -/
theorem tr_bin {l r : Expr} {op : Operator} {pos : Pos} {P : Heap → Prop} {R1 : Value → Heap → Prop} {R2 : Value → Value → Heap → Prop} {R3 : Value → Heap → Prop}
    (h1 : Tr (model prog w) A (eval l env) P R1) (h2 : ∀ a, Tr (model prog w) A (eval r env) (R1 a) (R2 a)) (h3 : ∀ a b, Tr (model prog w) A (binaryOp op a b) (R2 a b) R3) :
    Tr (model prog w) A (eval (.BinOp l op r pos) env) P R3 := fun s hp =>
  wpAny_BinOp (Tr.use h1 hp fun a _ m1 r1 => Tr.use (h2 a) r1 fun b _ m2 r2 => Tr.use (h3 a b) r2 fun _ _ m3 r3 => ⟨(m1.trans m2).trans m3, r3⟩)
theorem ev_bin {l r : Expr} {op : Operator} {pos : Pos} (h1 : Ev prog w A env β σ l V1) (h2 : Ev prog w A env β σ r V2)
    (h3 : ∀ a b, V1 a → V2 b → Tr (model prog w) A (binaryOp op a b) (Led β σ) (fun v h => V v ∧ Led β σ h)) : Ev prog w A env β σ (.BinOp l op r pos) V :=
  tr_bin h1 (R2 := fun a b h => V1 a ∧ V2 b ∧ Led β σ h) (fun _ => Tr.and fun va => Tr.mono h2 fun _ _ q => ⟨va, q⟩) fun a b s ⟨va, vb, hp⟩ => h3 a b va vb s hp
theorem ev_add {l r : Expr} {pos : Pos} {i j : Int} (h1 : Ev prog w A env β σ l (IsI i)) (h2 : Ev prog w A env β σ r (IsI j)) : Ev prog w A env β σ (.BinOp l .Add r pos) (IsI (i + j)) :=
  ev_bin h1 h2 fun _ _ ⟨_, e⟩ ⟨_, e'⟩ s hp => by subst e e'; exact add_int ⟨⟨rfl, rfl⟩, .mk, hp⟩
theorem ev_sub {l r : Expr} {pos : Pos} {i j : Int} (h1 : Ev prog w A env β σ l (IsI i)) (h2 : Ev prog w A env β σ r (IsI j)) : Ev prog w A env β σ (.BinOp l .Sub r pos) (IsI (i - j)) :=
  ev_bin h1 h2 fun _ _ ⟨_, e⟩ ⟨_, e'⟩ s hp => by subst e e'; exact sub_int ⟨⟨rfl, rfl⟩, .mk, hp⟩
theorem ev_mul {l r : Expr} {pos : Pos} {i j : Int} (h1 : Ev prog w A env β σ l (IsI i)) (h2 : Ev prog w A env β σ r (IsI j)) (hm : IntMulOk i j) : Ev prog w A env β σ (.BinOp l .Mult r pos) (IsI (i * j)) :=
  ev_bin h1 h2 fun _ _ ⟨_, e⟩ ⟨_, e'⟩ s hp => by subst e e'; exact mul_int ⟨⟨rfl, rfl⟩, .mk, hp⟩ hm
theorem ev_mod {l r : Expr} {pos : Pos} {i j : Int} (h1 : Ev prog w A env β σ l (IsI i)) (h2 : Ev prog w A env β σ r (IsI j)) (hj : j ≠ 0) : Ev prog w A env β σ (.BinOp l .Mod r pos) (IsI (i.fmod j)) :=
  ev_bin h1 h2 fun _ _ ⟨_, e⟩ ⟨_, e'⟩ s hp => by subst e e'; exact mod_int' hj ⟨⟨rfl, rfl⟩, .mk, hp⟩
theorem ev_div {l r : Expr} {pos : Pos} {i j : Int} (h1 : Ev prog w A env β σ l (IsI i)) (h2 : Ev prog w A env β σ r (IsI j)) (hj : j ≠ 0) (hb : Builtin.divisionGoesByPylong i j = false) : Ev prog w A env β σ (.BinOp l .FloorDiv r pos) (IsI (i.fdiv j)) :=
  ev_bin h1 h2 fun _ _ ⟨_, e⟩ ⟨_, e'⟩ s hp => by subst e e'; exact floordiv_int hj ⟨⟨rfl, rfl⟩, .mk, hp⟩ (.inl hb)
theorem ev_shr {l r : Expr} {pos : Pos} {i j : Int} (h1 : Ev prog w A env β σ l (IsI i)) (h2 : Ev prog w A env β σ r (IsI j)) (hj : 0 ≤ j) : Ev prog w A env β σ (.BinOp l .RShift r pos) (IsI (i.fdiv (2 ^ j.toNat))) :=
  ev_bin h1 h2 fun _ _ ⟨_, e⟩ ⟨_, e'⟩ s hp => by subst e e'; exact rshift_int hj ⟨⟨rfl, rfl⟩, .mk, hp⟩
theorem ev_neg {x : Expr} {pos : Pos} {i : Int} (h : Ev prog w A env β σ x (IsI i)) : Ev prog w A env β σ (.UnaryOp .USub x pos) (IsI (-i)) := fun s hp => by
  rw [arm_eval_UnaryOp]
  refine wpAny_bind (Tr.use h hp fun v s1 m1 ⟨⟨t, e⟩, r1⟩ => wpAny_bind (wpAny_standAt (wpAny_holding ?_)))
  subst e
  exact neg_int ⟨⟨m1.1, m1.2⟩, .mk, r1⟩

/-! conditions -/
theorem ts_cmp {l r : Expr} {op : CmpOp} {pos : Pos} {c : Bool} (h1 : Ev prog w A env β σ l V1) (h2 : Ev prog w A env β σ r V2)
    (h3 : ∀ a b, V1 a → V2 b → Tr (model prog w) A (compareOp op a b) (Led β σ) (fun v h => v = .bool c ∧ Led β σ h)) (hm : behindInMarks op r = false := by with_unfolding_all rfl) :
    Ts prog w A env β σ (.Compare l [op] [r] pos) c := fun _ hp =>
  wpAny_isTrue_Compare1 (Tr.use h1 hp fun a _ m1 r1 => Tr.use h2 r1.2 fun b _ m2 r2 => Tr.use (h3 a b r1.1 r2.1) r2.2 fun v _ m3 r3 => by
    obtain ⟨rfl, r3⟩ := r3; exact wpAny_truthy_bool ⟨(m1.trans m2).trans m3, rfl, r3⟩) hm
theorem ev_cmp {l r : Expr} {op : CmpOp} {pos : Pos} {c : Bool} (h1 : Ev prog w A env β σ l V1) (h2 : Ev prog w A env β σ r V2)
    (h3 : ∀ a b, V1 a → V2 b → Tr (model prog w) A (compareOp op a b) (Led β σ) (fun v h => v = .bool c ∧ Led β σ h)) (hm : behindInMarks op r = false := by with_unfolding_all rfl) :
    Ev prog w A env β σ (.Compare l [op] [r] pos) (· = .bool c) := fun _ hp =>
  wpAny_Compare1 (Tr.use h1 hp fun a _ m1 r1 => Tr.use h2 r1.2 fun b _ m2 r2 => Tr.use (h3 a b r1.1 r2.1) r2.2 fun v _ m3 r3 => ⟨(m1.trans m2).trans m3, r3⟩) hm
theorem ts_lt {l r : Expr} {pos : Pos} {i j : Int} (h1 : Ev prog w A env β σ l (IsI i)) (h2 : Ev prog w A env β σ r (IsI j)) (hm : behindInMarks .Lt r = false := by with_unfolding_all rfl) : Ts prog w A env β σ (.Compare l [.Lt] [r] pos) (decide (i < j)) :=
  ts_cmp h1 h2 (fun _ _ ⟨_, e⟩ ⟨_, e'⟩ s hp => by subst e e'; exact lt_int ⟨Sm.refl s, rfl, hp⟩) hm
theorem ts_gt {l r : Expr} {pos : Pos} {i j : Int} (h1 : Ev prog w A env β σ l (IsI i)) (h2 : Ev prog w A env β σ r (IsI j)) (hm : behindInMarks .Gt r = false := by with_unfolding_all rfl) : Ts prog w A env β σ (.Compare l [.Gt] [r] pos) (decide (j < i)) :=
  ts_cmp h1 h2 (fun _ _ ⟨_, e⟩ ⟨_, e'⟩ s hp => by subst e e'; exact gt_int ⟨Sm.refl s, rfl, hp⟩) hm
theorem ts_eq {l r : Expr} {pos : Pos} {i j : Int} (h1 : Ev prog w A env β σ l (IsI i)) (h2 : Ev prog w A env β σ r (IsI j)) (hm : behindInMarks .Eq r = false := by with_unfolding_all rfl) : Ts prog w A env β σ (.Compare l [.Eq] [r] pos) (i == j) :=
  ts_cmp h1 h2 (fun _ _ ⟨_, e⟩ ⟨_, e'⟩ s hp => by subst e e'; exact eq_int ⟨Sm.refl s, rfl, hp⟩) hm
theorem ts_is_none_yes {l r : Expr} {pos : Pos} (h1 : Ev prog w A env β σ l (· = .none)) (h2 : Ev prog w A env β σ r (· = .none)) (hm : behindInMarks .Is r = false := by with_unfolding_all rfl) : Ts prog w A env β σ (.Compare l [.Is] [r] pos) true :=
  ts_cmp h1 h2 (fun _ _ e e' s hp => by subst e e'; exact wpAny_is_self (by rfl) ⟨Sm.refl s, rfl, hp⟩) hm
theorem ts_is_none_no {l r : Expr} {pos : Pos} {a : Addr} (h1 : Ev prog w A env β σ l (· = .ref a)) (h2 : Ev prog w A env β σ r (· = .none)) (hm : behindInMarks .Is r = false := by with_unfolding_all rfl) : Ts prog w A env β σ (.Compare l [.Is] [r] pos) false :=
  ts_cmp h1 h2 (fun _ _ e e' s hp => by subst e e'; exact is_ref_none ⟨Sm.refl s, rfl, hp⟩) hm
theorem ts_not {x : Expr} {pos : Pos} {c : Bool} (h : Ts prog w A env β σ x c) : Ts prog w A env β σ (.UnaryOp .Not x pos) (!c) := fun _ hp =>
  isTrue_not (Tr.use h hp fun b _ m r => by obtain ⟨rfl, r⟩ := r; exact ⟨m, rfl, r⟩)
theorem ts_and {x y : Expr} {pos : Pos} {c d : Bool} (h : Ts prog w A env β σ x c) (h' : c = true → Ts prog w A env β σ y d) : Ts prog w A env β σ (.BoolOp .And [x, y] pos) (c && d) := fun s hp => by
  refine wpAny_isTrue_BoolOp ?_
  show wpAny _ _ (PySem.isTrue x env (eval x env) >>= _) _ _ s
  refine wpAny_bind (Tr.use h hp fun b s1 m r => ?_)
  obtain ⟨rfl, r⟩ := r
  cases b with
  | false => exact wpAny_pure ⟨m, rfl, r⟩
  | true =>
    show wpAny _ _ (PySem.isTrue y env (eval y env) >>= _) _ _ s1
    refine wpAny_bind (Tr.use (h' rfl) r fun b s2 m2 r2 => ?_)
    obtain ⟨rfl, r2⟩ := r2
    cases b with
    | false => exact wpAny_pure ⟨m.trans m2, rfl, r2⟩
    | true => exact wpAny_pure ⟨m.trans m2, rfl, r2⟩
theorem ts_list {e : Expr} {a : Addr} {xs : List Value} (h : Ev prog w A env β σ e (· = .ref a)) (hl : LsA β σ a xs) (hi : ∀ whole, PySem.isTrue e env whole = (do let v ← whole; standAt e.pos; holding [v] (truthy v)) := by intro _; rfl) :
    Ts prog w A env β σ e (!xs.isEmpty) := fun s hp => by
  rw [hi]
  refine wpAny_bind (Tr.use h hp fun v s1 m r => wpAny_bind (wpAny_standAt (wpAny_holding ?_)))
  obtain ⟨rfl, r⟩ := r
  refine wpAny_truthy_list (r.isListA hl) (by have := r.lenA hl; simp; omega) ⟨⟨m.1, m.2⟩, ?_, r⟩
  simp
theorem ev_ifexp {t b o : Expr} {pos : Pos} {c : Bool} (ht : Ts prog w A env β σ t c) (hb : c = true → Ev prog w A env β σ b V) (ho : c = false → Ev prog w A env β σ o V) : Ev prog w A env β σ (.IfExp t b o pos) V := fun s hp =>
  wpAny_IfExp (Tr.use ht hp fun k s1 m r => by
    obtain ⟨rfl, r⟩ := r
    cases k with
    | true => rw [if_pos rfl]; exact Tr.use (hb rfl) r fun v s2 m2 r2 => ⟨m.trans m2, r2⟩
    | false => rw [if_neg (by simp)]; exact Tr.use (ho rfl) r fun v s2 m2 r2 => ⟨m.trans m2, r2⟩)
theorem ev_and {x y : Expr} {pos : Pos} {d : Bool} (h : Ev prog w A env β σ x (· = .bool true)) (h' : Ev prog w A env β σ y (· = .bool d)) : Ev prog w A env β σ (.BoolOp .And [x, y] pos) (· = .bool d) := fun s hp => by
  rw [arm_eval_BoolOp]
  show wpAny _ _ (eval x env >>= _) _ _ s
  refine wpAny_bind (Tr.use h hp fun b s1 m r => ?_)
  obtain ⟨rfl, r⟩ := r
  refine wpAny_bind (wpAny_standAt (wpAny_bind (wpAny_holding (wpAny_truthy_bool ?_))))
  show wpAny _ _ (eval y env) _ _ s1
  exact Tr.use h' r fun v s2 m2 r2 => ⟨m.trans m2, r2⟩

/-! items -/
theorem toArray_get? {xs : List Value} {k : Nat} {x : Value} (h : xs[k]? = some x) : xs.toArray[k]? = some x := by simpa using h
theorem ev_item {v i : Expr} {pos : Pos} {a : Addr} {xs : List Value} {k : Int} {x : Value} (h1 : Ev prog w A env β σ v (· = .ref a)) (h2 : Ev prog w A env β σ i (IsI k)) (hl : LsA β σ a xs)
    (h0 : 0 ≤ k) (hx : xs[k.toNat]? = some x) (hs : ∀ o j : Value, subscripted i false o j = operate [o, j] (getItem o j) := by intro _ _; with_unfolding_all rfl) : Ev prog w A env β σ (.Subscript v i pos) (· = x) := fun s hp =>
  Subscript_ (Tr.use h1 hp fun o s1 m1 r1 => Tr.use h2 r1.2 fun j s2 m2 r2 => by
    obtain ⟨rfl, r1⟩ := r1
    obtain ⟨⟨t, rfl⟩, r2⟩ := r2
    have hlen := r2.lenA hl
    have hk : k.toNat < xs.length := (List.getElem?_eq_some_iff.mp hx).1
    refine tail_any (r2.isListA hl).typeIs slot_list_getitem.lookup (wpAny_getItem_list (r2.isListA hl) h0 (by omega) (toArray_get? hx) ⟨m1.trans m2, rfl, r2⟩) (hs _ _))
theorem ev_last {v i : Expr} {pos : Pos} {a : Addr} {xs : List Value} {x : Value} (h1 : Ev prog w A env β σ v (· = .ref a)) (h2 : Ev prog w A env β σ i (IsI (-1))) (hl : LsA β σ a xs)
    (hx : xs[xs.length - 1]? = some x) (hs : ∀ o j : Value, subscripted i false o j = operate [o, j] (getItem o j) := by intro _ _; with_unfolding_all rfl) : Ev prog w A env β σ (.Subscript v i pos) (· = x) := fun s hp =>
  Subscript_ (Tr.use h1 hp fun o s1 m1 r1 => Tr.use h2 r1.2 fun j s2 m2 r2 => by
    obtain ⟨rfl, r1⟩ := r1
    obtain ⟨⟨t, rfl⟩, r2⟩ := r2
    have hlen := r2.lenA hl
    have hk := (List.getElem?_eq_some_iff.mp hx).1
    refine tail_any (r2.isListA hl).typeIs slot_list_getitem.lookup (wpAny_getItem_list_neg (r2.isListA hl) (by omega) (by simp; omega) (by omega) (toArray_get? ?_) ⟨m1.trans m2, rfl, r2⟩) (hs _ _)
    rw [← hx]; congr 1; simp only [List.size_toArray]; omega)
theorem ev_titem {v i : Expr} {pos : Pos} {a : Addr} {xs : List Value} {k : Int} {x : Value} (h1 : Ev prog w A env β σ v (· = .ref a)) (h2 : Ev prog w A env β σ i (IsI k)) (hl : TpB β a xs) (hlen : xs.length ≤ 1000)
    (h0 : 0 ≤ k) (hx : xs[k.toNat]? = some x) (hs : ∀ o j : Value, subscripted i false o j = operate [o, j] (getItem o j) := by intro _ _; with_unfolding_all rfl) : Ev prog w A env β σ (.Subscript v i pos) (· = x) := fun s hp =>
  Subscript_ (Tr.use h1 hp fun o s1 m1 r1 => Tr.use h2 r1.2 fun j s2 m2 r2 => by
    obtain ⟨rfl, r1⟩ := r1
    obtain ⟨⟨t, rfl⟩, r2⟩ := r2
    have hk : k.toNat < xs.length := (List.getElem?_eq_some_iff.mp hx).1
    refine tail_any (r2.isTup hl).typeIs slot_tuple_getitem.lookup (getItem_tuple (r2.isTup hl) (j := k.toNat) (by omega) (by omega) ?_ (toArray_get? hx) ⟨m1.trans m2, rfl, r2⟩) (hs _ _)
    unfold seqIndex?
    simp only [if_neg (show ¬ k < 0 by omega)]
    rw [if_pos (by simp; omega)])
end
end Mine

namespace Mine

def upd (m : Str → Option Value) (x : Str) (v : Value) : Str → Option Value := fun y => if y = x then some v else m y
theorem upd_self {m : Str → Option Value} {x : Str} {v : Value} : upd m x v x = some v := if_pos rfl
theorem upd_ne {m : Str → Option Value} {x y : Str} {v : Value} (h : y ≠ x) : upd m x v y = m y := if_neg h

/-- what a list of statements leaves to what comes behind -/
def Wp (prog : Program) (w : World) (A : Around) (env : Env) (rest : List Stmt) (R : Flow → Heap → Prop) : Heap → Prop :=
  fun g => ∀ s : Shared, s.heap = g → wpAny (model prog w) A (execs rest env) (fun f s' => Sm s s' ∧ R f s'.heap) (fun _ _ => False) s
def Cont (Q : Heap → Prop) (R : Flow → Heap → Prop) : Flow → Heap → Prop
  | .next, g => Q g
  | f, g => R f g

section
variable {prog : Program} {w : World} {A : Around} {env : Env} {β : Base} {σ σ' : List It} {V V1 V2 : Value → Prop} {m : Str → Option Value} {rest : List Stmt} {P Q : Heap → Prop} {R : Flow → Heap → Prop}

theorem led_store {h h' : Heap} {L : Addr} {x : Str} {v : Value} (l : Led β σ h) (u : UpI (fr L m) (fr L (upd m x v)) σ σ') (hn : h'.Ns L (fun y => if y = x then some v else m y)) (hs : Heap.SameBut L h h') : Led β σ' h' :=
  l.upd u rfl (fun b o hb e => (hs.2 b hb).trans e) (let ⟨o, es, ep, e, r⟩ := hn; ⟨o, e, es, ep, r⟩)

theorem tr_store {x : Str} {v : Value} (u : UpI (fr env.locals m) (fr env.locals (upd m x v)) σ σ') (hk : env.scope.kind = .function := by rfl) (hl : env.kindOf x = some .local := by rfl) :
    Tr (model prog w) A (storeName env x v) (Led β σ) (fun _ h => Led β σ' h) := fun s hp =>
  wpAny_storeName_local hl (hp.ns u.mem) (fun _ hn hs => ⟨⟨rfl, rfl⟩, led_store hp u hn hs⟩) (by rw [hk]; rfl)
theorem tr_storeC {x : Str} {v : Value} {c : Addr} {v₀ : Option Value} (hc : env.cells.lookup x = some c) (u : UpI (cl c v₀) (cl c (some v)) σ σ') (hk : env.scope.kind = .function := by rfl) (hl : env.kindOf x = some .cell := by rfl) :
    Tr (model prog w) A (storeName env x v) (Led β σ) (fun _ h => Led β σ' h) := fun s hp =>
  wpAny_storeName_cell hk hl hc (hp.isCell u.mem) (fun _ hn hs => ⟨⟨rfl, rfl⟩, hp.upd u rfl (fun b _ hb e => (hs.2 b hb).trans e) hn⟩)

/-! statements -/
theorem ex_nil (h : ∀ g, P g → R .next g) : Ex prog w A env [] P R := fun s hp => wpAny_execs_nil ⟨Sm.refl s, h _ hp⟩
theorem ex_end (h : Ex prog w A env rest P R) : Ex prog w A env [] P (Cont (Wp prog w A env rest R) R) := ex_nil fun g hp s e => h s (by rw [e]; exact hp)
theorem ex_of_wp : Ex prog w A env rest (Wp prog w A env rest R) R := fun s hp => hp s rfl
theorem ex_seq {st : Stmt} (h1 : Tr (model prog w) A (exec st env) P (Cont Q R)) (h2 : Ex prog w A env rest Q R) : Ex prog w A env (st :: rest) P R := fun s hp =>
  wpAny_execs_cons (Tr.use h1 hp fun f s1 m1 r1 => by
    cases f with
    | next => exact Tr.use h2 r1 fun f s2 m2 r2 => ⟨m1.trans m2, r2⟩
    | _ => exact ⟨m1, r1⟩)
theorem Ex.pre {ss : List Stmt} {P' : Heap → Prop} (x : Ex prog w A env ss P R) (h : ∀ g, P' g → P g) : Ex prog w A env ss P' R := Tr.pre x h
theorem Ex.mono {ss : List Stmt} {R' : Flow → Heap → Prop} (x : Ex prog w A env ss P R) (h : ∀ f g, R f g → R' f g) : Ex prog w A env ss P R' := Tr.mono x h
theorem ex_ex {ι : Sort _} {ss : List Stmt} {P : ι → Heap → Prop} (x : ∀ y, Ex prog w A env ss (P y) R) : Ex prog w A env ss (fun h => ∃ y, P y h) R := fun s ⟨y, hp⟩ => x y s hp
theorem ex_and {ss : List Stmt} {C : Prop} (x : C → Ex prog w A env ss P R) : Ex prog w A env ss (fun h => C ∧ P h) R := Tr.and x

theorem ex_assign' {x : Str} {px pos : Pos} {e : Expr} {S : Value → Heap → Prop}
    (he : Tr (model prog w) A (eval e env) P S) (k : ∀ v, Tr (model prog w) A (storeName env x v) (S v) (fun _ => Wp prog w A env rest R))
    (hs : swapsWith e (some (.Name x px)) pos.line env = pure false := by rfl) :
    Ex prog w A env (.Assign [.Name x px] e pos :: rest) P R := fun s hp =>
  wpAny_execs_cons (wpAny_Assign_Name (Tr.use he hp fun v s1 m1 r1 => Tr.use (k v) r1 fun _ s2 m2 r2 => wpAny_mono (r2 s2 rfl) (fun f s3 r3 => ⟨(m1.trans m2).trans r3.1, r3.2⟩) fun _ _ q => q.elim) hs)
theorem wp_of {rest : List Stmt} {g : Heap} (h : Ex prog w A env rest P R) (hp : P g) : Wp prog w A env rest R g := fun s e => h s (by rw [e]; exact hp)
/-- x = e, e a plain value; the frame stands first -/
theorem ex_set {x : Str} {px pos : Pos} {e : Expr} (he : Ev prog w A env β (fr env.locals m :: σ) e V)
    (k : ∀ v, V v → Ex prog w A env rest (Led β (fr env.locals (upd m x v) :: σ)) R)
    (hk : env.scope.kind = .function := by rfl) (hl : env.kindOf x = some .local := by rfl) (hs : swapsWith e (some (.Name x px)) pos.line env = pure false := by rfl) :
    Ex prog w A env (.Assign [.Name x px] e pos :: rest) (Led β (fr env.locals m :: σ)) R :=
  ex_assign' he (fun v => Tr.and fun hv => Tr.mono (tr_store .head hk hl) fun _ g l => wp_of (k v hv) l) hs
/-- x = e in general; the frame stands first -/
theorem ex_setG {ι : Type} {x : Str} {px pos : Pos} {e : Expr} {C : ι → Value → Prop} {β' : ι → Base} {σ1 : ι → List It}
    (he : Tr (model prog w) A (eval e env) P (fun v h => ∃ y, C y v ∧ Led (β' y) (fr env.locals m :: σ1 y) h))
    (k : ∀ y v, C y v → Ex prog w A env rest (Led (β' y) (fr env.locals (upd m x v) :: σ1 y)) R)
    (hk : env.scope.kind = .function := by rfl) (hl : env.kindOf x = some .local := by rfl) (hs : swapsWith e (some (.Name x px)) pos.line env = pure false := by rfl) :
    Ex prog w A env (.Assign [.Name x px] e pos :: rest) P R :=
  ex_assign' he (fun v => Tr.ex fun y => Tr.and fun hv => Tr.mono (tr_store .head hk hl) fun _ g l => wp_of (k y v hv) l) hs
/-- x = e, x a cell -/
theorem ex_setC {ι : Type} {x : Str} {px pos : Pos} {e : Expr} {c : Addr} {v₀ : Option Value} {C : ι → Value → Prop} {β' : ι → Base} {σ1 : ι → List It} {σ2 : ι → Value → List It} (hc : env.cells.lookup x = some c)
    (he : Tr (model prog w) A (eval e env) P (fun v h => ∃ y, C y v ∧ Led (β' y) (σ1 y) h)) (u : ∀ y v, UpI (cl c v₀) (cl c (some v)) (σ1 y) (σ2 y v))
    (k : ∀ y v, C y v → Ex prog w A env rest (Led (β' y) (σ2 y v)) R)
    (hk : env.scope.kind = .function := by rfl) (hl : env.kindOf x = some .cell := by rfl) (hs : swapsWith e (some (.Name x px)) pos.line env = pure false := by rfl) :
    Ex prog w A env (.Assign [.Name x px] e pos :: rest) P R :=
  ex_assign' he (fun v => Tr.ex fun y => Tr.and fun hv => Tr.mono (tr_storeC hc (u y v) hk hl) fun _ g l => wp_of (k y v hv) l) hs

theorem ex_ret {e : Expr} {pos : Pos} (he : Tr (model prog w) A (eval e env) P (fun v => R (.ret v))) : Ex prog w A env (.Return (some e) pos :: rest) P R := fun s hp =>
  wpAny_execs_cons (wpAny_Return_some (Tr.use he hp fun v s1 m1 r1 => ⟨m1, r1⟩))
theorem ex_brk {pos : Pos} (h : ∀ g, P g → R .brk g) : Ex prog w A env (.Break pos :: rest) P R := fun s hp => wpAny_execs_cons (show wpAny _ _ (do standAt pos; pure Flow.brk) _ _ s from wpAny_bind (wpAny_standAt (wpAny_pure ⟨Sm.refl s, h _ hp⟩)))
theorem ex_cont {pos : Pos} (h : ∀ g, P g → R .cont g) : Ex prog w A env (.Continue pos :: rest) P R := fun s hp => wpAny_execs_cons (show wpAny _ _ (do standAt pos; pure Flow.cont) _ _ s from wpAny_bind (wpAny_standAt (wpAny_pure ⟨Sm.refl s, h _ hp⟩)))
theorem ex_expr {e : Expr} {pos : Pos} (he : Tr (model prog w) A (eval e env) P (fun v h => v = .none ∧ Q h)) (k : Ex prog w A env rest Q R)
    (hi : interactive env = false := by rfl) (hs : swapsWith e none pos.line env = pure false := by rfl) : Ex prog w A env (.Expr e pos :: rest) P R := fun s hp =>
  wpAny_execs_cons (wpAny_Expr (Tr.use he hp fun v s1 m1 ⟨e1, r1⟩ => by subst e1; exact Tr.use k r1 fun f s2 m2 r2 => ⟨m1.trans m2, r2⟩) hi hs)
theorem ex_ifG {t : Expr} {b o : List Stmt} {pos : Pos} {S : Bool → Heap → Prop} (ht : Tr (model prog w) A (PySem.isTrue t env (eval t env)) P S)
    (h1 : Ex prog w A env b (S true) (Cont (Wp prog w A env rest R) R)) (h2 : Ex prog w A env o (S false) (Cont (Wp prog w A env rest R) R)) : Ex prog w A env (.If t b o pos :: rest) P R := fun s hp =>
  wpAny_execs_cons (wpAny_If (Tr.use ht hp fun k s1 m1 r1 => by
    cases k with
    | true =>
      rw [if_pos rfl]
      refine Tr.use h1 r1 fun f s2 m2 r2 => ?_
      cases f with
      | next => exact wpAny_mono (r2 s2 rfl) (fun f s3 r3 => ⟨(m1.trans m2).trans r3.1, r3.2⟩) fun _ _ q => q.elim
      | _ => exact ⟨m1.trans m2, r2⟩
    | false =>
      rw [if_neg (by simp)]
      refine Tr.use h2 r1 fun f s2 m2 r2 => ?_
      cases f with
      | next => exact wpAny_mono (r2 s2 rfl) (fun f s3 r3 => ⟨(m1.trans m2).trans r3.1, r3.2⟩) fun _ _ q => q.elim
      | _ => exact ⟨m1.trans m2, r2⟩))
theorem ex_if {t : Expr} {b o : List Stmt} {pos : Pos} {c : Bool} (ht : Ts prog w A env β σ t c)
    (h1 : c = true → Ex prog w A env b (Led β σ) (Cont (Wp prog w A env rest R) R)) (h2 : c = false → Ex prog w A env o (Led β σ) (Cont (Wp prog w A env rest R) R)) : Ex prog w A env (.If t b o pos :: rest) (Led β σ) R :=
  ex_ifG (S := fun k h => k = c ∧ Led β σ h) ht (Tr.and fun e => h1 e.symm) (Tr.and fun e => h2 e.symm)

theorem passes_false : PassesOwn (model prog w) A env (fun _ _ => False) := fun _ _ q => q.elim
theorem ex_while {ι : Type} {t : Expr} {b : List Stmt} {pos : Pos} (I : ι → Heap → Prop) (meas : ι → Nat) {B : ι → Heap → Prop} {D : Heap → Prop}
    (ht : ∀ y, Tr (model prog w) A (PySem.isTrue t env (eval t env)) (I y) (fun k h => if k = true then B y h else D h))
    (hb : ∀ y, Ex prog w A env b (B y) (fun f g => match f with | .next | .cont => ∃ y', meas y' < meas y ∧ I y' g | .brk => D g | .ret v => R (.ret v) g))
    (k : Ex prog w A env rest D R) (y : ι) : Ex prog w A env (.While t b [] pos :: rest) (I y) R := fun s hp => by
  refine wpAny_execs_cons (wpAny_While (codeAny_whileLoop (fun n s' => Sm s s' ∧ ∃ y, meas y = n ∧ I y s'.heap) ?_ (meas y) ⟨Sm.refl s, y, rfl, hp⟩))
  rintro n s1 ⟨m1, y, rfl, r1⟩
  refine Tr.use (ht y) r1 fun c s2 m2 r2 => ?_
  cases c with
  | false =>
    simp only [Bool.false_eq_true, if_false] at r2 ⊢
    refine wpAny_execs_nil ?_
    exact Tr.use k r2 fun f s3 m3 r3 => ⟨(m1.trans m2).trans m3, r3⟩
  | true =>
    simp only [if_true] at r2 ⊢
    refine Tr.use (hb y) r2 fun f s3 m3 r3 => ?_
    cases f with
    | next => obtain ⟨y', l, i⟩ := r3; exact ⟨_, l, (m1.trans m2).trans m3, y', rfl, i⟩
    | cont => obtain ⟨y', l, i⟩ := r3; exact ⟨_, l, (m1.trans m2).trans m3, y', rfl, i⟩
    | brk => exact Tr.use k r3 fun f s4 m4 r4 => ⟨((m1.trans m2).trans m3).trans m4, r4⟩
    | ret v => exact ⟨(m1.trans m2).trans m3, r3⟩
end
end Mine

namespace Mine
open AutoSeq1 (wpAny_loadPart')
open SeqAt
theorem tuple_lt2 (l b : Addr) (x1 x2 y1 y2 : Int) (t1 t2 u1 u2 : Tok) : Meets (Builtin.«tuple.__lt__» ⟨[.ref l, .ref b], []⟩)
    (fun A R s => s.heap.get? l = some (tupO [.int x1 t1, .int x2 t2]) ∧ s.heap.get? b = some (tupO [.int y1 u1, .int y2 u2]) ∧
      R (.ok (.ret (.bool (decide (x1 < y1 ∨ (x1 = y1 ∧ x2 < y2)))))) s) :=
  .of_wp fun prog w A R s h => by
    obtain ⟨hp, g, d, tk, os⟩ := s
    obtain ⟨hl, hb, h⟩ := h
    unfold tupO at hl hb
    have f2 := AutoSeq1.sub_tuple_tuple
    wp_walk using wpAny_loadPart' hl, wpAny_loadPart' hb, wpAny_forIn_list _ (fun rest b s' => b.1 = none ∧ s' = ⟨hp, g, d, tk, os⟩ ∧
      (rest = [(Value.int x1 t1, Value.int y1 u1), (Value.int x2 t2, Value.int y2 u2)] ∨ (rest = [(Value.int x2 t2, Value.int y2 u2)] ∧ x1 = y1) ∨ (rest = [] ∧ x1 = y1 ∧ x2 = y2))) _
    case turn =>
      rintro ⟨y, x⟩ rest b s' ⟨hb', rfl, hz⟩
      rcases hz with hz | ⟨hz, e1⟩ | ⟨hz, _⟩
      · cases hz
        dsimp only
        refine wpAny_bind (EqAt.int_int x1 t1 y1 u1 prog w _ _ ?_)
        by_cases e : x1 = y1
        · rw [show (x1 == y1) = true from by simpa using e]
          simp only [Bool.not_true, Bool.false_eq_true, if_false]
          exact wpAny_pure (by simp [e])
        · rw [show (x1 == y1) = false from by simpa using e]
          simp only [Bool.not_false, if_true]
          refine wpAny_bind (wpAny_rule (wpAny_bind (wpAny_of_in1 (show wpAny _ _ (compareOp .Lt _ _) _ _ _ from lt_int ?_))))
          refine wpAny_bind (wpAny_pure (wpAny_pure (wpAny_pure ⟨_, rfl, ?_⟩)))
          have : decide (x1 < y1 ∨ x1 = y1 ∧ x2 < y2) = decide (x1 < y1) := by simp [e]
          rw [← this]; exact h
      · cases hz
        dsimp only
        refine wpAny_bind (EqAt.int_int x2 t2 y2 u2 prog w _ _ ?_)
        by_cases e : x2 = y2
        · rw [show (x2 == y2) = true from by simpa using e]
          simp only [Bool.not_true, Bool.false_eq_true, if_false]
          exact wpAny_pure (by simp [e1, e])
        · rw [show (x2 == y2) = false from by simpa using e]
          simp only [Bool.not_false, if_true]
          refine wpAny_bind (wpAny_rule (wpAny_bind (wpAny_of_in1 (show wpAny _ _ (compareOp .Lt _ _) _ _ _ from lt_int ?_))))
          refine wpAny_bind (wpAny_pure (wpAny_pure (wpAny_pure ⟨_, rfl, ?_⟩)))
          have : decide (x1 < y1 ∨ x1 = y1 ∧ x2 < y2) = decide (x2 < y2) := by simp [e1]
          rw [← this]; exact h
      · cases hz
    case fin =>
      rintro ⟨b1, b2⟩ s' ⟨hb', rfl, hz⟩
      rcases hz with hz | ⟨hz, e1⟩ | ⟨hz, e1, e2⟩
      · cases hz
      · cases hz
      · simp only at hb'
        subst hb'
        refine wpAny_pure ⟨_, rfl, ?_⟩
        have e3 : Builtin.Tuple.tupleCompareSizes CmpOp.Lt #[Value.int x1 t1, Value.int x2 t2].size #[Value.int y1 u1, Value.int y2 u2].size = .bool (decide (x1 < y1 ∨ x1 = y1 ∧ x2 < y2)) := by
          subst e1 e2; simp [Builtin.Tuple.tupleCompareSizes]
        rw [e3]; exact h
    case h =>
      exact ⟨rfl, rfl, .inl rfl⟩

section
variable {prog : Program} {w : World} {A : Around} {env : Env} {β : Base} {σ σ' : List It}
def tlt (x y : Int × Int) : Bool := decide (x.1 < y.1 ∨ (x.1 = y.1 ∧ x.2 < y.2))
theorem tr_tlt {l b : Addr} {x1 x2 y1 y2 : Int} {t1 t2 u1 u2 : Tok} (h1 : TpB β l [.int x1 t1, .int x2 t2]) (h2 : TpB β b [.int y1 u1, .int y2 u2]) (hu : A.units < cLine) :
    Tr (model prog w) A (compareOp .Lt (.ref l) (.ref b)) (Led β σ) (fun v h => v = .bool (tlt (x1, x2) (y1, y2)) ∧ Led β σ h) := fun s hp =>
  cmp_ofLt (richCompare_meets_room (op := .Lt) ⟨_, hp.kn _ _ h1, rfl⟩ ⟨_, hp.kn _ _ h2, rfl⟩ F.slot_tuple_lt F.entry_tuple_lt (F.args_tuple_lt_2 _ _) (tuple_lt2 l b x1 x2 y1 y2 t1 t2 u1 u2)
    ⟨hp.kn _ _ h1, hp.kn _ _ h2, (fun x => nomatch x), Sm.refl s, rfl, hp⟩ hu)
/-- a tuple is not unequal to itself -/
theorem tr_tne_self {l : Addr} {xs : List Value} (h1 : TpB β l xs) (hu : A.units < cLine) :
    Tr (model prog w) A (compareOp .NotEq (.ref l) (.ref l)) (Led β σ) (fun v h => v = .bool false ∧ Led β σ h) := fun s hp => by
  refine cmp_ofNotEq (RcNeAt.tuples (e := fun _ => true) (hp.isTuple h1) (hp.isTuple h1) hu (fun j _ _ => EqAt.same _) prog w _ _ ⟨Sm.refl s, ?_, hp⟩)
  simp
/-- two lists of the same things are equal -/
theorem tr_leq {l b : Addr} {xs ys : List Value} {c : Bool} (h1 : LsA β σ l xs) (h2 : LsA β σ b ys) (hu : A.units < cLine)
    (he : ys.length = xs.length ∧ c = true ∧ (∀ (j : Nat) (x y : Value), xs[j]? = some x → ys[j]? = some y → x = y ∨ ∃ (i : Int) (t u : Tok), x = .int i t ∧ y = .int i u) ∨ ys.length ≠ xs.length ∧ c = false) :
    Tr (model prog w) A (compareOp .Eq (.ref l) (.ref b)) (Led β σ) (fun v h => v = .bool c ∧ Led β σ h) := fun s hp => by
  rcases he with ⟨hlen, rfl, he⟩ | ⟨hlen, rfl⟩
  · refine eq_listAt (e := fun _ => true) (hp.isListA h1) (hp.isListA h2) (by simp [hlen]) hu (fun j q1 q2 => ?_) ⟨Sm.refl s, ?_, hp⟩
    · rcases he j _ _ (List.getElem?_eq_getElem (by simpa using q1)) (List.getElem?_eq_getElem (by simpa using q2)) with e | ⟨i, t, u, e1, e2⟩
      · have e' : xs.toArray[j] = ys.toArray[j] := by simpa using e
        rw [e']; exact EqAt.same _
      · have e1' : xs.toArray[j] = .int i t := by simpa using e1
        have e2' : ys.toArray[j] = .int i u := by simpa using e2
        rw [e1', e2']
        have := EqAt.int_int (A := A.in1) (s := s) i t i u
        rwa [show (i == i) = true from by simp] at this
    · simp
  · refine eq_list_lengthsAt (hp.isListA h1) (hp.isListA h2) (by simpa using fun e => hlen e.symm) hu ⟨Sm.refl s, rfl, hp⟩
theorem tr_lne_nil {l b : Addr} {xs : List Value} (h1 : LsA β σ l xs) (h2 : LsA β σ b []) (hu : A.units < cLine) :
    Tr (model prog w) A (compareOp .NotEq (.ref l) (.ref b)) (Led β σ) (fun v h => v = .bool (!xs.isEmpty) ∧ Led β σ h) := fun s hp => by
  cases xs with
  | nil => exact cmp_ofNotEq (RcNeAt.lists (e := fun _ => true) (hp.isListA h1) (hp.isListA h2) rfl hu (fun j q1 _ => absurd q1 (by simp)) prog w _ _ ⟨Sm.refl s, rfl, hp⟩)
  | cons x xs => exact cmp_ofNotEq (RcNeAt.lists_lengths (hp.isListA h1) (hp.isListA h2) (by simp) hu prog w _ _ ⟨Sm.refl s, rfl, hp⟩)
end
end Mine

namespace Mine

section
variable {prog : Program} {w : World} {A : Around} {env : Env} {β : Base} {σ σ' : List It} {V V1 V2 : Value → Prop} {m : Str → Option Value} {rest : List Stmt} {P Q : Heap → Prop} {R : Flow → Heap → Prop}

/-! ### a list of the ledger changed -/
theorem mapSeq_listOf {xs : Array Value} {n : Nat} {f : Array Value → Array Value} : ∃ n', Obj.mapSeq f (listOf xs n) = listOf (f xs) n' := ⟨_, rfl⟩

theorem led_mapSeq {h : Heap} {a : Addr} {xs ys : List Value} {f : Array Value → Array Value} (l : Led β σ h) (u : UpI (ls a xs) (ls a ys) σ σ') (hf : f xs.toArray = ys.toArray) (hy : ys.length ≤ 1000) :
    Led β σ' (h.update a (Obj.mapSeq f)) := by
  obtain ⟨_, n, e⟩ := l.getL u.mem
  refine l.upd u rfl (fun b o hb q => ((Heap.SameBut.update h a _).2 b hb).trans q) ?_
  obtain ⟨n', e'⟩ := mapSeq_listOf (xs := xs.toArray) (n := n) (f := f)
  refine ⟨_, Heap.get?_update_self _ e (by rw [e']; rfl), hy, n', ?_⟩
  rw [e', hf]

theorem tr_setItem {a : Addr} {xs : List Value} {k : Int} {t : Tok} {v : Value} (u : UpI (ls a xs) (ls a (xs.set k.toNat v)) σ σ') (h0 : 0 ≤ k) (hk : k < xs.length) :
    Tr (model prog w) A (setItem (.ref a) (.int k t) v) (Led β σ) (fun _ h => Led β σ' h) := fun s hp => by
  obtain ⟨hlen, n, e⟩ := hp.getL u.mem
  refine ki_setAt e h0 (by omega) (by simpa using hk) ⟨⟨rfl, rfl⟩, led_mapSeq hp u ?_ (by simpa using hlen)⟩
  apply Array.toList_inj.mp
  simp
theorem ex_setitem {o i e : Expr} {p' pos : Pos} {a : Addr} {xs : List Value} {k : Int} {σ2 : Value → List It} (he : Ev prog w A env β σ e V) (ho : Ev prog w A env β σ o (· = .ref a)) (hi : Ev prog w A env β σ i (IsI k))
    (u : ∀ v, UpI (ls a xs) (ls a (xs.set k.toNat v)) σ (σ2 v)) (h0 : 0 ≤ k) (hk : k < xs.length) (kk : ∀ v, V v → Ex prog w A env rest (Led β (σ2 v)) R)
    (hs : swapsWith e (some (o.Subscript i p')) pos.line env = pure false := by rfl) : Ex prog w A env (.Assign [.Subscript o i p'] e pos :: rest) (Led β σ) R := fun s hp =>
  wpAny_execs_cons (wpAny_Assign_Subscript (Tr.use he hp fun v s1 m1 r1 => Tr.use ho r1.2 fun ov s2 m2 r2 => Tr.use hi r2.2 fun iv s3 m3 r3 => by
    obtain ⟨rfl, r2⟩ := r2
    obtain ⟨⟨t, rfl⟩, r3⟩ := r3
    refine Tr.use (tr_setItem (u v) h0 hk) r3 fun _ s4 m4 r4 => ?_
    exact Tr.use (kk v r1.1) r4 fun f s5 m5 r5 => ⟨(((m1.trans m2).trans m3).trans m4).trans m5, r5⟩) hs)
theorem ex_augitem {o i e : Expr} {p' pos : Pos} {a : Addr} {xs : List Value} {k : Int} {op : Operator} {old d new : Int} {t0 : Tok} {σ2 : Tok → List It} (ho : Ev prog w A env β σ o (· = .ref a)) (hi : Ev prog w A env β σ i (IsI k))
    (he : Ev prog w A env β σ e (IsI d)) (hx : xs[k.toNat]? = some (.int old t0)) (h0 : 0 ≤ k)
    (hop : op = .Add ∧ new = old + d ∨ op = .Sub ∧ new = old - d)
    (u : ∀ t, UpI (ls a xs) (ls a (xs.set k.toNat (.int new t))) σ (σ2 t)) (kk : ∀ t, Ex prog w A env rest (Led β (σ2 t)) R)
    (hs : ∀ ov iv new, augStore i ov iv new = (do holding [new, ov, iv] (setItem ov iv new); release [new, ov, iv] []; pure .next) := by intros; rfl) : Ex prog w A env (.AugAssign (.Subscript o i p') op e pos :: rest) (Led β σ) R := fun s hp => by
  have hlt : k.toNat < xs.length := (List.getElem?_eq_some_iff.mp hx).1
  refine wpAny_execs_cons (wpAny_AugAssign_SubscriptAny (Tr.use ho hp fun ov s1 m1 r1 => Tr.use hi r1.2 fun iv s2 m2 r2 => ?_) hs)
  obtain ⟨rfl, r1⟩ := r1
  obtain ⟨⟨t, rfl⟩, r2⟩ := r2
  have hlen := (r2.getL (u 0).mem).1
  refine wpAny_getItem_list (r2.isList (u 0).mem) h0 (by omega) (toArray_get? hx) ?_
  refine Tr.use he r2 fun v s3 m3 r3 => ?_
  obtain ⟨⟨tv, rfl⟩, r3⟩ := r3
  rcases hop with ⟨rfl, rfl⟩ | ⟨rfl, rfl⟩
  · refine iadd_int (Tr.use (tr_setItem (prog := prog) (w := w) (A := A) (t := t) (u s3.toks) h0 (by omega)) (s := { s3 with toks := s3.toks + 1 }) r3 fun _ s4 m4 r4 => ?_)
    exact Tr.use (kk _) r4 fun f s5 m5 r5 => ⟨(((m1.trans m2).trans m3).trans ⟨m4.1, m4.2⟩).trans m5, r5⟩
  · refine isub_int (Tr.use (tr_setItem (prog := prog) (w := w) (A := A) (t := t) (u s3.toks) h0 (by omega)) (s := { s3 with toks := s3.toks + 1 }) r3 fun _ s4 m4 r4 => ?_)
    exact Tr.use (kk _) r4 fun f s5 m5 r5 => ⟨(((m1.trans m2).trans m3).trans ⟨m4.1, m4.2⟩).trans m5, r5⟩

theorem tr_append1 {a : Addr} {xs : List Value} {v : Value} (u : UpI (ls a xs) (ls a (xs ++ [v])) σ σ') (hlen : xs.length < 1000) :
    Tr (model prog w) A (call (.builtin "list.append") [.ref a, v]) (Led β σ) (fun r h => r = .none ∧ Led β σ' h) := fun s hp => by
  obtain ⟨_, n, e⟩ := hp.getL u.mem
  have hsz : xs.toArray.size ≤ sizeLine := by rw [sizeLine_eq]; simp; omega
  refine call_meets F.slot_list_append ⟨_, e, rfl⟩ F.entry_list_append (F.args_list_append_2 _ _) (AutoListH.list_append_list_val_0 a xs.toArray n v hsz) ⟨e, ⟨rfl, rfl⟩, rfl, led_mapSeq hp u ?_ (by simp; omega)⟩
  simp
theorem tr_append {ι : Type} {o elt : Expr} {apos pos : Pos} {a : Addr} {xs : List Value} {C : ι → Value → Prop} {β' : ι → Base} {σ1 : ι → List It} {S : Value → Heap → Prop}
    (ho : Ev prog w A env β σ o (· = .ref a)) (hm : ls a xs ∈ σ)
    (he : Tr (model prog w) A (eval elt env) (Led β σ) (fun v h => ∃ y, C y v ∧ Led (β' y) (σ1 y) h)) (hc : ∀ y v, C y v → Tr (model prog w) A (call (.builtin "list.append") [.ref a, v]) (Led (β' y) (σ1 y)) S)
    (hbase : attributeBase o "append" env (eval o env) = eval o env := by rfl) (hline : (apos.endLine == pos.line) = true := by rfl) (htrees : backTo pos (starEach [elt] env) = [(false, eval elt env)] := by rfl) :
    Tr (model prog w) A (eval (.Call (.Attribute o "append" apos) [elt] [] pos) env) (Led β σ) S := fun s hp => by
  refine wpAny_Call_method1_late hbase hline htrees (Tr.use ho hp fun ov s1 m1 r1 => ?_)
  obtain ⟨rfl, r1⟩ := r1
  obtain ⟨_, n, e⟩ := r1.getL hm
  refine ⟨"list", "list.append", F.plainAttrs_list, F.slot_list_append, F.type_list_append, ⟨_, e, rfl⟩, fun b hb => by cases hb; exact ⟨_, e, rfl⟩, ?_⟩
  refine Calls.callWith_builtin rfl (Calls.evalArgs_plain (Calls.spliced_cons (Tr.use he r1 fun v s2 m2 r2 => Calls.spliced_nil ?_)))
  obtain ⟨y, c, r2⟩ := r2
  exact Tr.use (hc y v c) r2 fun r s3 m3 r3 => ⟨(m1.trans m2).trans m3, r3⟩
theorem tr_pop {o : Expr} {apos pos : Pos} {a : Addr} {xs : List Value} {x : Value} (ho : Ev prog w A env β σ o (· = .ref a)) (u : UpI (ls a (xs ++ [x])) (ls a xs) σ σ')
    (hbase : attributeBase o "pop" env (eval o env) = eval o env := by rfl) (hline : (apos.endLine == pos.line) = true := by rfl) :
    Tr (model prog w) A (eval (.Call (.Attribute o "pop" apos) [] [] pos) env) (Led β σ) (fun v h => v = x ∧ Led β σ' h) := fun s hp => by
  refine wpAny_Call_method0_late hbase hline (Tr.use ho hp fun ov s1 m1 r1 => ?_)
  obtain ⟨rfl, r1⟩ := r1
  obtain ⟨hlen, n, e⟩ := r1.getL u.mem
  have hsz : (xs ++ [x]).toArray.size ≤ sizeLine := by rw [sizeLine_eq]; simp at hlen ⊢; omega
  refine ⟨"list", "list.pop", F.plainAttrs_list, F.slot_list_pop, F.type_list_pop, ⟨_, e, rfl⟩, fun b hb => by cases hb; exact ⟨_, e, rfl⟩, ?_⟩
  refine Calls.callWith_builtin rfl (PySem.evalArgs_none ?_)
  refine call_meets F.slot_list_pop ⟨_, e, rfl⟩ F.entry_list_pop (F.args_list_pop_1 _) (MeetsSeq.list_pop_last a _ n x (by simp) hsz) ⟨e, ⟨m1.1, m1.2⟩, rfl, led_mapSeq r1 u ?_ (by simp at hlen; omega)⟩
  apply Array.toList_inj.mp
  simp [List.eraseIdx_append_of_length_le]

/-! ### displays -/
theorem tr_new {a : Value → Prop} {xs : List Value} (hlen : xs.length ≤ 1000) : Tr (model prog w) A (newList xs) (Led β σ) (fun v h => ∃ a, v = .ref a ∧ Led β (ls a xs :: σ) h) := fun s hp =>
  wpAny_newObj_type ⟨⟨rfl, rfl⟩, _, rfl, hp.new (i := ls s.heap.objs.size xs) _ rfl ⟨hlen, 0, rfl⟩ rfl⟩ (by show xs.toArray.size ≤ sizeLine; rw [sizeLine_eq]; simp; omega)
theorem tr_newT {xs : List Value} (hlen : xs.length ≤ 1000) : Tr (model prog w) A (newTuple xs) (Led β σ) (fun v h => ∃ a, v = .ref a ∧ TpB (β.add a (tupO xs)) a xs ∧ β.le (β.add a (tupO xs)) ∧ Led (β.add a (tupO xs)) σ h) := fun s hp =>
  wpAny_newObj_type ⟨⟨rfl, rfl⟩, _, rfl, Base.add_self, Base.le_add hp.fresh_none, by
    obtain ⟨o, ok, _, l⟩ := (hp.new (i := ob s.heap.objs.size (tupO xs)) _ rfl rfl rfl).freeze
    subst ok; exact l⟩ (by show xs.toArray.size ≤ sizeLine; rw [sizeLine_eq]; simp; omega)
theorem tr_list0 {pos : Pos} : Tr (model prog w) A (eval (.List [] pos) env) (Led β σ) (fun v h => ∃ a, v = .ref a ∧ Led β (ls a [] :: σ) h) := fun s hp =>
  List_ (show wpAny _ _ (spliced []) _ _ s from Calls.spliced_nil (tr_new (by simp) (a := fun _ => True) s hp))
theorem tr_list1 {e : Expr} {pos : Pos} (he : Ev prog w A env β σ e V) (ht : backTo pos (starEach [e] env) = [(false, eval e env)] := by rfl) :
    Tr (model prog w) A (eval (.List [e] pos) env) (Led β σ) (fun v h => ∃ x a, V x ∧ v = .ref a ∧ Led β (ls a [x] :: σ) h) := fun s hp =>
  List_ (by rw [ht]; exact Calls.spliced_cons (Tr.use he hp fun x s1 m1 r1 => Calls.spliced_nil (Tr.use (tr_new (by simp) (a := fun _ => True)) r1.2 fun v s2 m2 ⟨a, e, l⟩ => ⟨m1.trans m2, x, a, r1.1, e, l⟩)))
theorem tr_tup2 {e1 e2 : Expr} {k : Nat} {pos : Pos} (h1 : Ev prog w A env β σ e1 V1) (h2 : Ev prog w A env β σ e2 V2) (ht : backTo pos (starEach [e1, e2] env) = [(false, eval e1 env), (false, eval e2 env)] := by rfl) :
    Tr (model prog w) A (eval (.Tuple [e1, e2] k pos) env) (Led β σ) (fun v h => ∃ (x : Base × Addr × Value × Value), (V1 x.2.2.1 ∧ V2 x.2.2.2 ∧ v = .ref x.2.1 ∧ TpB x.1 x.2.1 [x.2.2.1, x.2.2.2] ∧ β.le x.1) ∧ Led x.1 σ h) := fun s hp =>
  Tuple_ (by rw [ht]; exact Calls.spliced_cons (Tr.use h1 hp fun x s1 m1 r1 => Calls.spliced_cons (Tr.use h2 r1.2 fun y s2 m2 r2 => Calls.spliced_nil (Tr.use (tr_newT (by simp)) r2.2 fun v s3 m3 ⟨a, e, t, l, d⟩ =>
    ⟨(m1.trans m2).trans m3, (_, a, x, y), ⟨r1.1, r2.1, e, t, l⟩, d⟩))))
theorem tr_list4 {e1 e2 e3 e4 : Expr} {pos : Pos} {V3 V4 : Value → Prop} (h1 : Ev prog w A env β σ e1 V1) (h2 : Ev prog w A env β σ e2 V2) (h3 : Ev prog w A env β σ e3 V3) (h4 : Ev prog w A env β σ e4 V4)
    (ht : backTo pos (starEach [e1, e2, e3, e4] env) = [(false, eval e1 env), (false, eval e2 env), (false, eval e3 env), (false, eval e4 env)] := by rfl) :
    Tr (model prog w) A (eval (.List [e1, e2, e3, e4] pos) env) (Led β σ) (fun v h => ∃ x1 x2 x3 x4 a, V1 x1 ∧ V2 x2 ∧ V3 x3 ∧ V4 x4 ∧ v = .ref a ∧ Led β (ls a [x1, x2, x3, x4] :: σ) h) := fun s hp =>
  List_ (by rw [ht]; exact Calls.spliced_cons (Tr.use h1 hp fun x1 s1 m1 r1 => Calls.spliced_cons (Tr.use h2 r1.2 fun x2 s2 m2 r2 => Calls.spliced_cons (Tr.use h3 r2.2 fun x3 s3 m3 r3 => Calls.spliced_cons (Tr.use h4 r3.2 fun x4 s4 m4 r4 => Calls.spliced_nil (
    Tr.use (tr_new (by simp) (a := fun _ => True)) r4.2 fun v s5 m5 ⟨a, e, l⟩ => ⟨(((m1.trans m2).trans m3).trans m4).trans m5, x1, x2, x3, x4, a, r1.1, r2.1, r3.1, r4.1, e, l⟩))))))
theorem ev_tup4item {e1 e2 e3 e4 i : Expr} {k : Nat} {p pos : Pos} {V3 V4 : Value → Prop} {j : Int} (h1 : Ev prog w A env β σ e1 V1) (h2 : Ev prog w A env β σ e2 V2) (h3 : Ev prog w A env β σ e3 V3) (h4 : Ev prog w A env β σ e4 V4)
    (hi : ∀ β' , β.le β' → Ev prog w A env β' σ i (IsI j)) (h0 : 0 ≤ j) (hj : j < 4) (hV : ∀ x1 x2 x3 x4 x, V1 x1 → V2 x2 → V3 x3 → V4 x4 → [x1, x2, x3, x4][j.toNat]? = some x → V x)
    (ht : backTo p (starEach [e1, e2, e3, e4] env) = [(false, eval e1 env), (false, eval e2 env), (false, eval e3 env), (false, eval e4 env)] := by rfl)
    (hs : ∀ o j : Value, subscripted i false o j = operate [o, j] (getItem o j) := by intro _ _; with_unfolding_all rfl) :
    Ev prog w A env β σ (.Subscript (.Tuple [e1, e2, e3, e4] k p) i pos) V := fun s hp =>
  Subscript_ (Tuple_ (by rw [ht]; exact Calls.spliced_cons (Tr.use h1 hp fun x1 s1 m1 r1 => Calls.spliced_cons (Tr.use h2 r1.2 fun x2 s2 m2 r2 => Calls.spliced_cons (Tr.use h3 r2.2 fun x3 s3 m3 r3 => Calls.spliced_cons (Tr.use h4 r3.2 fun x4 s4 m4 r4 => Calls.spliced_nil (by
    refine Tr.use (tr_newT (by simp)) r4.2 fun v s5 m5 ⟨a, e, t, l, d⟩ => ?_
    subst e
    refine Tr.use (hi _ l) d fun iv s6 m6 r6 => ?_
    obtain ⟨⟨ti, rfl⟩, r6⟩ := r6
    have hlt : j.toNat < [x1, x2, x3, x4].length := by simp; omega
    refine tail_any (r6.isTup t).typeIs slot_tuple_getitem.lookup (getItem_tuple (r6.isTup t) (j := j.toNat) (by omega) (by omega) ?_ (toArray_get? (List.getElem?_eq_getElem hlt)) ⟨((((m1.trans m2).trans m3).trans m4).trans m5).trans m6, hV x1 x2 x3 x4 _ r1.1 r2.1 r3.1 r4.1 (List.getElem?_eq_getElem hlt), r6.weak l⟩) (hs _ _)
    unfold seqIndex?
    simp only [if_neg (show ¬ j < 0 by omega)]
    rw [if_pos (by simp; omega)])))))))

/-! ### lists joined, repeated, sliced -/
theorem tr_ladd {a b : Addr} {xs ys : List Value} (h1 : LsA β σ a xs) (h2 : LsA β σ b ys) (hlen : xs.length + ys.length ≤ 1000) :
    Tr (model prog w) A (binaryOp .Add (.ref a) (.ref b)) (Led β σ) (fun v h => ∃ c, v = .ref c ∧ Led β (ls c (xs ++ ys) :: σ) h) := fun s hp => by
  obtain ⟨⟨cls, dd, data, sl⟩, ho, hc, n, hd⟩ := id (hp.isListA h1)
  obtain ⟨⟨cls2, dd2, data2, sl2⟩, ho2, hc2, n2, hd2⟩ := id (hp.isListA h2)
  simp only at hc hd hc2 hd2
  subst hc hd hc2 hd2
  have e : xs.toArray ++ ys.toArray = (xs ++ ys).toArray := by simp
  refine concat_meets ⟨_, ho, rfl⟩ ⟨_, ho2, rfl⟩ noFill_list_add seq_list_add F.slot_list_add F.entry_list_add (F.args_list_add_2 _ _) (list_addW a b xs.toArray ys.toArray n n2 dd dd2 sl sl2 (by rw [sizeLine_eq]; simp; omega)) ⟨ho, ho2, ?_⟩
  rw [e]
  exact ⟨⟨rfl, rfl⟩, _, rfl, hp.new (i := ls s.heap.objs.size (xs ++ ys)) _ rfl ⟨by simpa using hlen, 0, rfl⟩ rfl⟩
theorem foldl_rep {x : Value} : ∀ (k : Nat) (acc : Array Value), List.foldl (fun x1 x2 => x1 ++ x2) acc (List.replicate k #[x]) = acc ++ (List.replicate k x).toArray
  | 0, acc => by simp
  | k + 1, acc => by rw [List.replicate_succ, List.foldl_cons, foldl_rep k, List.replicate_succ]; apply Array.toList_inj.mp; simp
theorem tr_lmul {a : Addr} {x : Value} {k : Int} {t : Tok} (h1 : ls a [x] ∈ σ) (h0 : 0 ≤ k) (hlen : k ≤ 1000) :
    Tr (model prog w) A (binaryOp .Mult (.ref a) (.int k t)) (Led β σ) (fun v h => ∃ c, v = .ref c ∧ Led β (ls c (List.replicate k.toNat x) :: σ) h) := fun s hp => by
  obtain ⟨_, n, hl⟩ := hp.getL h1
  refine wpAny_binaryOp_repeat_ref (T := "list") (U := "int") (by decide) ⟨_, hl, rfl⟩ (fun s' => typeIs_int s' k t) noFill_list_mul F.fills_int_mul F.slot_int_rmul repeat_list F.slot_int_index.lookup
    (call_meets F.slot_int_rmul (typeIs_int s k t) F.entry_int_rmul (F.args_int_rmul_2 _ _) (int___rmul___int_list k t a _ n)
      ⟨hl, rfl, ⟨_, hl, rfl⟩, call_meets F.slot_list_mul ⟨_, hl, rfl⟩ F.entry_list_mul (F.args_list_mul_2 _ _)
        (AutoListH.list___mul___list_int_3 a _ n k t (by simp [Builtin.List.listFitsIndex]; omega) (by simp; omega) (by simp [Builtin.List.listTooLong, sizeLine]; omega))
        ⟨hl, ?_⟩⟩)
  refine ⟨⟨rfl, rfl⟩, _, rfl, hp.new (i := ls s.heap.objs.size (List.replicate k.toNat x)) _ rfl ⟨by simp; omega, 0, ?_⟩ rfl⟩
  simp [foldl_rep]
end
end Mine

namespace Mine

section
variable {prog : Program} {w : World} {A : Around} {env : Env} {β : Base} {σ σ' : List It} {V V1 V2 : Value → Prop} {m : Str → Option Value} {rest : List Stmt} {P Q : Heap → Prop} {R : Flow → Heap → Prop}

/-! ### slices -/
theorem tr_slice {v : Expr} {lo hi : Option Expr} {p pos : Pos} {a : Addr} {xs : List Value} {l u : Option Int} (hv : Ev prog w A env β σ v (· = .ref a)) (hl : LsA β σ a xs)
    (h1 : Tr (model prog w) A (evalPart lo env) (Led β σ) (fun v h => IsPart v l ∧ Led β σ h)) (h2 : Tr (model prog w) A (evalPart hi env) (Led β σ) (fun v h => IsPart v u ∧ Led β σ h))
    (ht : ∀ o r, letTemporaryGo v o r = pure () := by intro _ _; rfl) :
    Tr (model prog w) A (eval (.Subscript v (.Slice lo hi none p) pos) env) (Led β σ) (fun v h => ∃ c, v = .ref c ∧ Led β (ls c (slicePick xs.toArray l u none).toList :: σ) h) := fun s hp => by
  refine wpAny_Subscript_Slice slot_list_getitem.lookup (Tr.use hv hp fun o s1 m1 r1 => wpAny_Slice (Tr.use h1 r1.2 fun v1 s2 m2 r2 => Tr.use h2 r2.2 fun v2 s3 m3 r3 => ?_)) ht
  obtain ⟨rfl, r1⟩ := r1
  rw [evalPart_none]
  refine wpAny_pure ?_
  have r4 := r3.2.push { cls := .type "slice", data := .fields #[v1, v2, .none] }
  have hlen := r4.lenA hl
  refine ⟨(r4.isListA hl).typeIs, ?_⟩
  refine wpAny_getItem_list_slice (s := { s3 with heap := s3.heap.push { cls := .type "slice", data := .fields #[v1, v2, .none] } }) (r4.isListA hl) (Heap.IsSliceOf.new s3.heap v1 v2 .none) r2.1 r3.1 .none (by simp) ?_ (by rw [sizeLine_eq]; simp; omega)
  refine ⟨⟨((m1.trans m2).trans m3).1, ((m1.trans m2).trans m3).2⟩, _, rfl, r4.new (i := ls _ (slicePick xs.toArray l u none).toList) _ rfl ⟨?_, 0, ?_⟩ rfl⟩
  · have := slicePick_size_le xs.toArray l u none
    simp at this ⊢; omega
  · simp
theorem part_none : Tr (model prog w) A (evalPart none env) (Led β σ) (fun v h => IsPart v none ∧ Led β σ h) := fun s hp => wpAny_pure ⟨Sm.refl s, .none, hp⟩
theorem part_some {e : Expr} {i : Int} (h : Ev prog w A env β σ e (IsI i)) : Tr (model prog w) A (evalPart (some e) env) (Led β σ) (fun v h => IsPart v (some i) ∧ Led β σ h) :=
  Tr.mono h fun v _ q => ⟨by obtain ⟨⟨t, rfl⟩, _⟩ := q; exact .int i t, q.2⟩
theorem tr_take {v e : Expr} {p pos : Pos} {a : Addr} {xs : List Value} {k : Nat} (hv : Ev prog w A env β σ v (· = .ref a)) (hl : LsA β σ a xs) (he : Ev prog w A env β σ e (IsI k)) (ht : ∀ o r, letTemporaryGo v o r = pure () := by intro _ _; rfl) :
    Tr (model prog w) A (eval (.Subscript v (.Slice none (some e) none p) pos) env) (Led β σ) (fun v h => ∃ c, v = .ref c ∧ Led β (ls c (xs.take k) :: σ) h) :=
  Tr.mono (tr_slice hv hl part_none (part_some he) ht) fun v h ⟨c, e, l⟩ => ⟨c, e, by simpa [slicePick_upto'] using l⟩
theorem tr_drop {v e : Expr} {p pos : Pos} {a : Addr} {xs : List Value} {k : Nat} (hv : Ev prog w A env β σ v (· = .ref a)) (hl : LsA β σ a xs) (he : Ev prog w A env β σ e (IsI k)) (ht : ∀ o r, letTemporaryGo v o r = pure () := by intro _ _; rfl) :
    Tr (model prog w) A (eval (.Subscript v (.Slice (some e) none none p) pos) env) (Led β σ) (fun v h => ∃ c, v = .ref c ∧ Led β (ls c (xs.drop k) :: σ) h) :=
  Tr.mono (tr_slice hv hl (part_some he) part_none ht) fun v h ⟨c, e, l⟩ => ⟨c, e, by simpa [slicePick_from'] using l⟩
theorem pick_both (xs : List Value) (a b : Nat) : (slicePick xs.toArray (some a) (some b) none).toList = (xs.drop a).take (b - a) := by
  rw [slicePick_plain]
  simp only [Option.elim, clipAt_nat, List.size_toArray]
  rcases Nat.le_total a xs.length with h | h
  · rw [Nat.min_eq_left h]
    rcases Nat.le_total b xs.length with h' | h'
    · rw [Nat.min_eq_left h']
    · rw [Nat.min_eq_right h', List.take_of_length_le (by simp), List.take_of_length_le (by simp; omega)]
  · rw [Nat.min_eq_right h]
    simp [List.drop_of_length_le h]
theorem tr_cut {v e e' : Expr} {p pos : Pos} {a : Addr} {xs : List Value} {k j : Nat} (hv : Ev prog w A env β σ v (· = .ref a)) (hl : LsA β σ a xs) (he : Ev prog w A env β σ e (IsI k)) (he' : Ev prog w A env β σ e' (IsI j)) (ht : ∀ o r, letTemporaryGo v o r = pure () := by intro _ _; rfl) :
    Tr (model prog w) A (eval (.Subscript v (.Slice (some e) (some e') none p) pos) env) (Led β σ) (fun v h => ∃ c, v = .ref c ∧ Led β (ls c ((xs.drop k).take (j - k)) :: σ) h) :=
  Tr.mono (tr_slice hv hl (part_some he) (part_some he') ht) fun v h ⟨c, e, l⟩ => ⟨c, e, by rw [pick_both] at l; exact l⟩

/-! ### calls of builtins -/
theorem tr_call1 {x : Str} {p pos : Pos} {e : Expr} {f : Value} {S : Value → Heap → Prop} {R1 : Value → Heap → Prop} (hf : Ev prog w A env β σ (.Name x p) (· = f)) (hk : (∃ id, f = .builtin id) ∨ ∃ T, f = .type T)
    (he : Tr (model prog w) A (eval e env) (Led β σ) R1) (hc : ∀ v, Tr (model prog w) A (call f [v]) (R1 v) S) (hs : starEach [e] env = [(false, eval e env)] := by rfl) :
    Tr (model prog w) A (eval (.Call (.Name x p) [e] [] pos) env) (Led β σ) S := fun s hp => by
  refine Call_Name1 (Tr.use hf hp fun g s1 m1 r1 => ?_) hs
  obtain ⟨rfl, r1⟩ := r1
  rcases hk with ⟨id, rfl⟩ | ⟨T, rfl⟩
  · exact Calls.callWith_builtin rfl (Calls.evalArgs_plain (Calls.spliced_cons (Tr.use he r1 fun v s2 m2 r2 => Calls.spliced_nil (Tr.use (hc v) r2 fun r s3 m3 r3 => ⟨(m1.trans m2).trans m3, r3⟩))))
  · exact PySem.callWith_type rfl (Calls.evalArgs_plain (Calls.spliced_cons (Tr.use he r1 fun v s2 m2 r2 => Calls.spliced_nil (Tr.use (hc v) r2 fun r s3 m3 r3 => ⟨(m1.trans m2).trans m3, r3⟩))))
theorem tr_call2 {x : Str} {p pos : Pos} {e e' : Expr} {id : String} {S : Value → Heap → Prop} (hf : Ev prog w A env β σ (.Name x p) (· = .builtin id))
    (he : Ev prog w A env β σ e V1) (he' : Ev prog w A env β σ e' V2) (hc : ∀ v v', V1 v → V2 v' → Tr (model prog w) A (call (.builtin id) [v, v']) (Led β σ) S) (hs : starEach [e, e'] env = [(false, eval e env), (false, eval e' env)] := by rfl) :
    Tr (model prog w) A (eval (.Call (.Name x p) [e, e'] [] pos) env) (Led β σ) S := fun s hp => by
  refine Call_Name2 (Tr.use hf hp fun g s1 m1 r1 => ?_) hs
  obtain ⟨rfl, r1⟩ := r1
  exact Calls.callWith_builtin rfl (Calls.evalArgs_plain (Calls.spliced_cons (Tr.use he r1 fun v s2 m2 r2 => Calls.spliced_cons (Tr.use he' r2.2 fun v' s3 m3 r3 => Calls.spliced_nil (Tr.use (hc v v' r2.1 r3.1) r3.2 fun r s4 m4 r4 => ⟨((m1.trans m2).trans m3).trans m4, r4⟩)))))

theorem tr_len {a : Addr} {xs : List Value} (hl : LsA β σ a xs) : Tr (model prog w) A (call (.builtin "len") [.ref a]) (Led β σ) (fun v h => IsI xs.length v ∧ Led β σ h) := fun s hp => by
  refine Calls.call_len_list (hp.isListA hl) (by have := hp.lenA hl; simp; omega) ⟨⟨rfl, rfl⟩, ?_, hp⟩
  exact ⟨_, by simp; rfl⟩
theorem ev_len {x : Str} {p pos : Pos} {e : Expr} {a : Addr} {xs : List Value} (hf : Ev prog w A env β σ (.Name x p) (· = .builtin "len")) (he : Ev prog w A env β σ e (· = .ref a)) (hl : LsA β σ a xs) (hs : starEach [e] env = [(false, eval e env)] := by rfl) :
    Ev prog w A env β σ (.Call (.Name x p) [e] [] pos) (IsI xs.length) :=
  tr_call1 hf (.inl ⟨_, rfl⟩) he (fun v => Tr.and fun e => by subst e; exact tr_len hl) hs
/-- len of a list that is made on the spot -/
theorem ev_lenN {x : Str} {p pos : Pos} {e : Expr} {n : Nat} (hf : Ev prog w A env β σ (.Name x p) (· = .builtin "len")) (he : Tr (model prog w) A (eval e env) (Led β σ) (fun v h => ∃ a xs, v = .ref a ∧ xs.length = n ∧ Led β (ls a xs :: σ) h)) (hs : starEach [e] env = [(false, eval e env)] := by rfl) :
    Ev prog w A env β σ (.Call (.Name x p) [e] [] pos) (IsI n) :=
  tr_call1 hf (.inl ⟨_, rfl⟩) he (fun v => Tr.ex fun a => Tr.ex fun xs => Tr.and fun e => Tr.and fun hn => by subst e hn; exact Tr.mono (tr_len (.inl (.head _))) fun v h q => ⟨q.1, q.2.tail⟩) hs
theorem ev_abs {x : Str} {p pos : Pos} {e : Expr} {i : Int} (hf : Ev prog w A env β σ (.Name x p) (· = .builtin "abs")) (he : Ev prog w A env β σ e (IsI i)) (hs : starEach [e] env = [(false, eval e env)] := by rfl) :
    Ev prog w A env β σ (.Call (.Name x p) [e] [] pos) (IsI i.natAbs) :=
  tr_call1 hf (.inl ⟨_, rfl⟩) he (fun v => Tr.and fun ⟨t, e⟩ => by
    subst e
    exact fun s hp => call_abs_int fun u tk => ⟨⟨rfl, rfl⟩, ⟨u, by congr 1; split <;> omega⟩, hp⟩) hs
theorem ev_min {x : Str} {p pos : Pos} {e e' : Expr} {i j : Int} (hA : A.handled = none) (hf : Ev prog w A env β σ (.Name x p) (· = .builtin "min")) (he : Ev prog w A env β σ e (IsI i)) (he' : Ev prog w A env β σ e' (IsI j)) (hs : starEach [e, e'] env = [(false, eval e env), (false, eval e' env)] := by rfl) :
    Ev prog w A env β σ (.Call (.Name x p) [e, e'] [] pos) (IsI (min i j)) :=
  tr_call2 hf he he' (fun v v' ⟨t, e⟩ ⟨t', e'⟩ => by
    subst e e'
    refine fun s hp => min_two_ints hA fun h' tk hk => ⟨⟨rfl, rfl⟩, ?_, hp.keeps hk⟩
    by_cases h : j < i
    · rw [if_pos h]; exact ⟨t', by congr 1; omega⟩
    · rw [if_neg h]; exact ⟨t, by congr 1; omega⟩) hs
theorem preSum_take (l : List (Int × Tok)) : ∀ k, k ≤ l.length → preSum (numAt l.toArray) k = ((l.take k).map (·.1)).sum
  | 0, _ => rfl
  | k + 1, h => by
    have hk : k < l.length := h
    rw [preSum, preSum_take l k (by omega), List.take_succ_eq_append_getElem hk]
    simp only [List.map_append, List.sum_append, List.map_cons, List.map_nil, List.sum_cons, List.sum_nil, Int.add_zero]
    congr 1
    simp [numAt, hk]
theorem sum_bound (l : List (Int × Tok)) (hb : ∀ p ∈ l, 0 ≤ p.1 ∧ p.1 ≤ 1000) : 0 ≤ (l.map (·.1)).sum ∧ (l.map (·.1)).sum ≤ 1000 * l.length := by
  induction l with
  | nil => simp
  | cons a l ih =>
    have h1 := hb a (.head _)
    have h2 := ih fun p hp => hb p (.tail _ hp)
    simp only [List.map_cons, List.sum_cons, List.length_cons]
    omega
theorem tr_sum {a : Addr} {l : List (Int × Tok)} (hA : A.handled = none) (hl : LsA β σ a (l.map fun p => .int p.1 p.2)) (hb : ∀ p ∈ l, 0 ≤ p.1 ∧ p.1 ≤ 1000) :
    Tr (model prog w) A (call (.builtin "sum") [.ref a]) (Led β σ) (fun v h => IsI (l.map (·.1)).sum v ∧ Led β σ h) := fun s hp => by
  have hlen := hp.lenA hl
  simp at hlen
  have e : intItems l.toArray = (l.map fun p => Value.int p.1 p.2).toArray := by simp [intItems]
  have hL := hp.isListA hl
  rw [← e] at hL
  refine sum_intList hA hL (fun j hj => ?_) fun h' tk t' hk => ⟨⟨rfl, rfl⟩, ⟨t', ?_⟩, hp.keeps hk⟩
  · simp at hj
    constructor
    · have := hb l[j] (List.getElem_mem hj)
      unfold InLong numAt
      simp [hj]
      omega
    · rw [preSum_take l (j + 1) (by omega)]
      have := sum_bound (l.take (j + 1)) fun p hp => hb p (List.mem_of_mem_take hp)
      simp only [List.length_take] at this
      unfold InLong
      omega
  · rw [preSum_take l _ (by simp)]
    simp
end
end Mine

namespace Mine

/-! ### iterators -/
def ownedIters : List String := ["enumerate", "zip", "dict_itemiterator", "dict_reverseitemiterator", "odict_iterator", "itertools.zip_longest", "itertools.pairwise"]
structure Steps (prog : Program) (w : World) (A : Around) (β : Base) (I : Addr) (n : Nat) (st : Nat → Obj → Prop) (V : Nat → Value → Prop) : Prop where
  item : ∀ β' k σ, β.le β' → k < n → Tr (model prog w) A (pyNext (.ref I)) (Led β' (⟨I, st k⟩ :: σ)) (fun r h => ∃ v, r = some v ∧ V k v ∧ Led β' (⟨I, st (k + 1)⟩ :: σ) h)
  stop : ∀ β' σ, β.le β' → Tr (model prog w) A (pyNext (.ref I)) (Led β' (⟨I, st n⟩ :: σ)) (fun r h => r = none ∧ Led β' σ h)
  again : ∀ β' σ, β.le β' → Tr (model prog w) A (pyIter (.ref I)) (Led β' (⟨I, st 0⟩ :: σ)) (fun r h => r = .ref I ∧ Led β' (⟨I, st 0⟩ :: σ) h)
  plain : ∀ k o, st k o → ∃ T vs, o.cls = .type T ∧ o.data = .fields vs ∧ ownedIters.contains T = false

def Src (prog : Program) (w : World) (A : Around) (env : Env) (β : Base) (σ : List It) (iter : Expr) (n : Nat) (V : Nat → Value → Prop) : Prop :=
  ∃ R1 : Value → Heap → Prop, Tr (model prog w) A (eval iter env) (Led β σ) R1 ∧ ∀ x, Tr (model prog w) A (pyIter x) (R1 x) (fun it h => ∃ I st β', it = .ref I ∧ β.le β' ∧ Steps prog w A β' I n st V ∧ Led β' (⟨I, st 0⟩ :: σ) h)

section
variable {prog : Program} {w : World} {A : Around} {env : Env} {β β' : Base} {σ σ' : List It} {V V1 V2 : Value → Prop} {m : Str → Option Value} {rest : List Stmt} {P Q : Heap → Prop} {R : Flow → Heap → Prop}

theorem Led.obAt {h : Heap} {a : Addr} {o : Obj} (x : Led β σ h) (hm : ob a o ∈ σ) : h.get? a = some o := by
  obtain ⟨o', e, rfl⟩ := x.own _ hm; exact e
theorem led_ext {h h' : Heap} {i : It} (x : Led β (i :: σ) h) (e : Heap.ExtBut i.a h h') : Led β σ h' :=
  ⟨fun b o q => e b o (fun z => by have := x.ap i (.head _); rw [← z, q] at this; cases this) (x.kn b o q),
   fun j hj => (by
    obtain ⟨o, q, k⟩ := x.own j (.tail _ hj)
    refine ⟨o, e _ o (fun z => ?_) q, k⟩
    have := (List.nodup_cons.mp x.nd).1
    exact this (List.mem_map.mpr ⟨j, hj, z⟩)), x.tail.ap, x.tail.nd⟩

/-- a list's iterator -/
def liO (l : Addr) (k : Nat) : Obj → Prop := fun o => o.cls = .type "list_iterator" ∧ o.data = .fields #[.ref l, .int k 0]
theorem steps_list {l I : Addr} {xs : List Value} (hA : A.handled = none) (hl : LsB β l xs) : Steps prog w A β I xs.length (liO l) (fun k v => xs[k]? = some v) where
  item := fun β' k σ hle hk s hp => by
    obtain ⟨o, hI, ho⟩ := hp.own _ (List.Mem.head _)
    have hx : xs.toArray[k]? = some xs[k] := by simp [hk]
    exact wpAny_pyNext_list_item ⟨_, hI, ho⟩ (hp.isListB (hl.le hle)) hx fun h' hit hs => ⟨⟨rfl, rfl⟩, _, rfl, by simp [hk], hp.upd .head rfl (fun b _ hb e => (hs.2 b hb).trans e) hit⟩
  stop := fun β' σ hle s hp => by
    obtain ⟨o, hI, ho⟩ := hp.own _ (List.Mem.head _)
    exact wpAny_pyNext_list_end hA ⟨_, hI, ho⟩ (hp.isListB (hl.le hle)) (by simp) fun h' he => ⟨⟨rfl, rfl⟩, rfl, led_ext hp he⟩
  again := fun β' σ hle s hp => by
    obtain ⟨o, hI, ho⟩ := hp.own _ (List.Mem.head _)
    exact wpAny_pyIter_listiter ⟨_, hI, ho⟩ ⟨Sm.refl s, rfl, hp⟩
  plain := fun k o ho => ⟨_, _, ho.1, ho.2, by decide⟩
theorem src_list {iter : Expr} {l : Addr} {xs : List Value} (hA : A.handled = none) (hi : Ev prog w A env β σ iter (· = .ref l)) (hl : LsB β l xs) : Src prog w A env β σ iter xs.length (fun k v => xs[k]? = some v) :=
  ⟨_, hi, fun x => Tr.and fun e => by
    subst e
    exact fun s hp => wpAny_pyIter_list (hp.isListB hl) ⟨⟨rfl, rfl⟩, _, liO l, β, rfl, .refl _, steps_list hA hl, hp.new (i := ⟨s.heap.objs.size, liO l 0⟩) _ rfl ⟨rfl, rfl⟩ rfl⟩⟩
/-- over a list that is made on the spot -/
theorem src_made {iter : Expr} {xs : List Value} (hA : A.handled = none) (hi : Tr (model prog w) A (eval iter env) (Led β σ) (fun v h => ∃ c, v = .ref c ∧ Led β (ls c xs :: σ) h)) : Src prog w A env β σ iter xs.length (fun k v => xs[k]? = some v) :=
  ⟨_, hi, fun x => Tr.ex fun l => Tr.and fun e => by
    subst e
    intro s hp
    have hn := hp.ap _ (.head _)
    obtain ⟨o, ⟨hlen, n, rfl⟩, _, hp'⟩ := hp.freeze
    have hl : LsB (β.add l (listOf xs.toArray n)) l xs := ⟨hlen, n, Base.add_self⟩
    exact wpAny_pyIter_list (hp'.isListB hl) ⟨⟨rfl, rfl⟩, _, liO l, _, rfl, Base.le_add hn, steps_list hA hl, hp'.new (i := ⟨s.heap.objs.size, liO l 0⟩) _ rfl ⟨rfl, rfl⟩ rfl⟩⟩

/-- a range's iterator -/
def riO (x left step : Int) : Obj → Prop := fun o => o = { cls := .type "range_iterator", dict := none, data := .fields #[rawInt x, rawInt left, rawInt step], slots := #[] }
theorem steps_range {I : Addr} {x step : Int} {n : Nat} (hA : A.handled = none) : Steps prog w A β I n (fun k => riO (x + k * step) ((n : Int) - k) step) (fun k v => IsI (x + k * step) v) where
  item := fun β' k σ hle hk s hp => by
    obtain ⟨o, hI, rfl⟩ := hp.own _ (List.Mem.head _)
    refine wpAny_pyNext_range_item hI (by omega) fun h' hit hs => ⟨⟨rfl, rfl⟩, _, rfl, .mk, hp.upd .head rfl (fun b _ hb e => (hs.2 b hb).trans e) ⟨_, hit, ?_⟩⟩
    unfold riO
    have e1 : x + (k : Int) * step + step = x + ((k + 1 : Nat) : Int) * step := by rw [Int.add_assoc, show ((k + 1 : Nat) : Int) = (k : Int) + 1 from rfl, Int.add_mul, Int.one_mul]
    have e2 : (n : Int) - k - 1 = (n : Int) - ((k + 1 : Nat) : Int) := by omega
    rw [e1, e2]
  stop := fun β' σ hle s hp => by
    obtain ⟨o, hI, rfl⟩ := hp.own _ (List.Mem.head _)
    exact wpAny_pyNext_range_end hA hI (by omega) fun h' he => ⟨⟨rfl, rfl⟩, rfl, led_ext hp he⟩
  again := fun β' σ hle s hp => by
    obtain ⟨o, hI, rfl⟩ := hp.own _ (List.Mem.head _)
    exact wpAny_pyIter_rangeiter hI ⟨Sm.refl s, rfl, hp⟩
  plain := fun k o ho => by subst ho; exact ⟨_, _, rfl, rfl, by decide⟩
theorem src_range {x : Str} {p pos : Pos} {e : Expr} {n : Nat} (hA : A.handled = none) (hf : Ev prog w A env β σ (.Name x p) (· = .type "range")) (he : Ev prog w A env β σ e (IsI n)) (hn : n ≤ 1000) (hs : starEach [e] env = [(false, eval e env)] := by rfl) :
    Src prog w A env β σ (.Call (.Name x p) [e] [] pos) n (fun k v => IsI k v) :=
  ⟨fun v h => ∃ r t u w', v = .ref r ∧ IsRange h r 0 n 1 t u w' ∧ Led β σ h, tr_call1 hf (.inr ⟨_, rfl⟩) he (fun v => Tr.and fun ⟨t, e⟩ => by
    subst e
    exact fun s hp => call_range_1 ⟨⟨rfl, rfl⟩, _, _, _, _, rfl, IsRange.new _ _ _ _ _ _ _, hp.push _⟩) hs, fun v s ⟨r, t, u, w', e, hr, hp⟩ => by
    subst e
    refine wpAny_pyIter_range hr (small_one (by omega) (by omega) (by omega) (by omega)) ⟨⟨rfl, rfl⟩, _, fun k => riO (0 + k * 1) ((n : Int) - k) 1, β, rfl, .refl _, ?_, hp.new (i := ⟨s.heap.objs.size, riO (0 + (0 : Nat) * 1) ((n : Int) - (0 : Nat)) 1⟩) _ rfl ?_ rfl⟩
    · have := steps_range (prog := prog) (w := w) (A := A) (β := β) (I := s.heap.objs.size) (x := 0) (step := 1) (n := n) hA
      simpa using this
    · unfold riO
      rw [rangeSize_one]
      have e1 : (if (0 : Int) < n then (n : Int) - 0 else 0) = n := by split <;> omega
      rw [e1]; simp⟩

/-! reversed(range(n)) -/
theorem sub_ri_reversed : isSubtype (.type "range_iterator") (.type "reversed") = pure false := by rw [isSubtype_type]; kernel_rfl
theorem range_rev (r : Addr) (n : Int) (t u v : Tok) (h0 : 0 ≤ n) (h1 : n ≤ 1000) : Meets (Builtin.«range.__reversed__» ⟨[.ref r], []⟩)
    (fun _ R s => s.heap.get? r = some { cls := .type "range", dict := none, data := .fields #[.int 0 t, .int n u, .int 1 v], slots := #[] } ∧
      R (.ok (.ret (.ref s.heap.objs.size))) { s with heap := s.heap.push { cls := .type "range_iterator", data := .fields #[rawInt (n - 1), rawInt n, rawInt (-1)] } }) :=
  .of_wp fun prog w A R s h => by
    obtain ⟨hp, g, d, tk, os⟩ := s
    obtain ⟨hl, h⟩ := h
    have hsm : (Builtin.Range.rangeFitsLong 0 && Builtin.Range.rangeFitsLong n && Builtin.Range.rangeFitsLong 1 && Builtin.Range.rangeFitsLong (-1) && Builtin.Range.rangeFitsLong (0 - 1) && Builtin.Range.rangeFitsLong (Builtin.Range.rangeSize 0 n 1)) = true := by
      rw [rangeSize_one]
      simp only [Builtin.Range.rangeFitsLong, Bool.and_eq_true, decide_eq_true_eq]
      split <;> omega
    have hsz : Builtin.Range.rangeSize 0 n 1 = n := by rw [rangeSize_one]; split <;> omega
    wp_walk using AutoSeq1.wpAny_loadPart' hl
    rw [hsz] at hsm
    simp only [hsz, hsm, Bool.not_true, Bool.false_eq_true, if_false, if_true, Int.mul_one, Int.zero_add]
    refine wpAny_bind (m := newFields "range_iterator" _) (wpAny_newObj_type ?_)
    exact wpAny_pure ⟨_, rfl, h⟩
theorem code_rev {r : Addr} {n : Int} {t u v : Tok} {E : Value → Shared → Prop} {s : Shared} {Q₁ : Value → Shared → Prop} (hl : IsRange s.heap r 0 n 1 t u v) (h0 : 0 ≤ n) (h1 : n ≤ 1000)
    (h : Q₁ (.ref s.heap.objs.size) { s with heap := s.heap.push { cls := .type "range_iterator", data := .fields #[rawInt (n - 1), rawInt n, rawInt (-1)] } }) :
    codeAny (model prog w) A (.call (.builtin "reversed.__new__") ⟨[.type "reversed", .ref r], []⟩) (wants Q₁ E) s := by
  have hT : s.TypeIs (.ref r) "range" := ⟨_, hl, rfl⟩
  refine codeAny_of_tree ?_
  show wpAny _ A.in1 (do checkBuiltinCall "reversed.__new__" ⟨[.type "reversed", .ref r], []⟩; again (.builtin "reversed.__new__" ⟨[.type "reversed", .ref r], []⟩)) _ _ s
  refine wpAny_bind (wpAny_of_eq (F.newCall_reversed_1 _) (wpAny_pure ⟨plainId_quiet F.plain_reversed_new _, codeAny_builtin F.entry_reversed_new ?_⟩))
  rw [Around.under_plainId F.plain_reversed_new _]
  unfold Builtin.«reversed.__new__»
  refine wpAny_bind (wpAny_of_eq (newClass_reversed _) ?_)
  try dsimp only
  refine wpAny_bind (wpAny_of_eq (a := ()) (by first | rfl | kernel_rfl) ?_)
  refine wpAny_bind (wpAny_of_eq (a := ()) (by first | rfl | kernel_rfl) ?_)
  try dsimp only
  refine wpAny_bind (wpAny_specialOf hT F.slot_range_reversed.lookup ?_)
  try dsimp only
  refine wpAny_bind (wpAny_of_eq (F.slot_range_reversed.bind _) ?_)
  try dsimp only
  rw [if_neg (show ¬ ((Value.builtin "range.__reversed__" == Value.none) = true) from Bool.false_ne_true)]
  refine wpAny_bind (wpAny_rule ?_)
  refine wpAny_bind (m := runValue (.call (.builtin "range.__reversed__") ⟨[.ref r], []⟩)) (show wpAny _ _ (call (.builtin "range.__reversed__") [.ref r]) _ _ _ from
    call_meets F.slot_range_reversed hT F.entry_range_reversed (F.args_range_reversed_1 _) (range_rev r n t u v h0 h1) ⟨hl, ?_⟩)
  exact wpAny_pure h
theorem call_rev {r : Addr} {n : Int} {t u v : Tok} {E : Value → Shared → Prop} {s : Shared} {Q : Value → Shared → Prop} (hl : IsRange s.heap r 0 n 1 t u v) (h0 : 0 ≤ n) (h1 : n ≤ 1000)
    (h : Q (.ref s.heap.objs.size) { s with heap := s.heap.push { cls := .type "range_iterator", data := .fields #[rawInt (n - 1), rawInt n, rawInt (-1)] } }) : wpAny (model prog w) A (call (.type "reversed") [.ref r]) Q E s := by
  refine callType_other (U := "range_iterator") (Q₁ := fun obj s₁ => obj = .ref s.heap.objs.size ∧ s₁ = { s with heap := s.heap.push { cls := .type "range_iterator", data := .fields #[rawInt (n - 1), rawInt n, rawInt (-1)] } }) (by decide +kernel) F.create_reversed ⟨_, _, F.mro_reversed⟩ F.made_reversed sub_ri_reversed (F.typeCall_reversed_1 _) (code_rev hl h0 h1 ⟨rfl, rfl⟩) ?_
  rintro obj s₁ ⟨rfl, rfl⟩
  exact ⟨⟨_, Heap.get?_push_size _ rfl, rfl⟩, h⟩
theorem src_rev {x y : Str} {p q pos pos' : Pos} {e : Expr} {n : Nat} (hA : A.handled = none) (hr : Ev prog w A env β σ (.Name y q) (· = .type "reversed")) (hf : Ev prog w A env β σ (.Name x p) (· = .type "range")) (he : Ev prog w A env β σ e (IsI n)) (hn : n ≤ 1000)
    (hs : starEach [e] env = [(false, eval e env)] := by rfl) (hs' : starEach [.Call (.Name x p) [e] [] pos'] env = [(false, eval (.Call (.Name x p) [e] [] pos') env)] := by rfl) :
    Src prog w A env β σ (.Call (.Name y q) [.Call (.Name x p) [e] [] pos'] [] pos) n (fun k v => IsI ((n : Int) - 1 - k) v) :=
  ⟨fun v h => ∃ I, v = .ref I ∧ Led β (⟨I, riO ((n : Int) - 1 + (0 : Nat) * (-1)) ((n : Int) - (0 : Nat)) (-1)⟩ :: σ) h, tr_call1 hr (.inr ⟨_, rfl⟩) (R1 := fun v h => ∃ r t u w', v = .ref r ∧ IsRange h r 0 n 1 t u w' ∧ Led β σ h) (tr_call1 hf (.inr ⟨_, rfl⟩) he (fun v => Tr.and fun ⟨t, e⟩ => by
    subst e
    exact fun s hp => call_range_1 ⟨⟨rfl, rfl⟩, _, _, _, _, rfl, IsRange.new _ _ _ _ _ _ _, hp.push _⟩) hs) (fun v s ⟨r, t, u, w', e, hr, hp⟩ => by
      subst e
      exact call_rev hr (by omega) (by omega) ⟨⟨rfl, rfl⟩, _, rfl, hp.new (i := ⟨s.heap.objs.size, riO ((n : Int) - 1 + (0 : Nat) * (-1)) ((n : Int) - (0 : Nat)) (-1)⟩) _ rfl (by unfold riO; simp) rfl⟩) hs', fun v => Tr.ex fun I => Tr.and fun e => by
    subst e
    have st := steps_range (prog := prog) (w := w) (A := A) (β := β) (I := I) (x := (n : Int) - 1) (step := -1) (n := n) hA
    refine Tr.mono (st.again β σ (.refl _)) fun v h q => ⟨I, fun k => riO ((n : Int) - 1 + k * (-1)) ((n : Int) - k) (-1), β, q.1, .refl _, ?_, q.2⟩
    have e : (fun (k : Nat) (v : Value) => IsI ((n : Int) - 1 + k * -1) v) = fun (k : Nat) v => IsI ((n : Int) - 1 - k) v := by funext k v; congr 1; omega
    rw [e] at st; exact st⟩

/-! ### for -/
theorem ex_forG {ι : Type} {target iter : Expr} {body : List Stmt} {pos : Pos} {n : Nat} {V : Nat → Value → Prop} (src : Src prog w A env β σ iter n V) (B : ι → Base) (S : ι → List It) (Inv : Nat → ι → Prop)
    (h0 : ∀ β', β.le β' → ∃ y, B y = β' ∧ S y = σ ∧ Inv 0 y)
    (turn : ∀ k y v i, k < n → V k v → β.le (B y) → Inv k y → ∃ T : Heap → Prop, Tr (model prog w) A (assign target env v) (Led (B y) (i :: S y)) (fun _ => T) ∧
      Ex prog w A env body T (fun f h => (f = .next ∨ f = .cont) ∧ ∃ y', (B y).le (B y') ∧ Inv (k + 1) y' ∧ Led (B y') (i :: S y') h))
    (kk : ∀ y, β.le (B y) → Inv n y → Ex prog w A env rest (Led (B y) (S y)) R) (hs : ∀ x, foldedSetIterable iter env x = pure x := by intro _; rfl) (ht : ∀ it v, letOwnedTupleGo target it v = pure () := by intro _ _; rfl) :
    Ex prog w A env (.For target iter body [] pos :: rest) (Led β σ) R := fun s hp => by
  obtain ⟨R1, h1, h2⟩ := src
  refine wpAny_execs_cons (wpAny_For (Tr.use h1 hp fun x s1 m1 r1 => Tr.use (h2 x) r1 fun it s2 m2 r2 => ?_) hs)
  obtain ⟨I, st, β', rfl, hle, steps, r2⟩ := r2
  obtain ⟨y0, eB, eS, i0⟩ := h0 β' hle
  refine codeAny_forLoop (fun j s' => ∃ k y, k ≤ n ∧ j = n - k ∧ β'.le (B y) ∧ Inv k y ∧ Sm s s' ∧ Led (B y) (⟨I, st k⟩ :: S y) s'.heap) ?_ n ⟨0, y0, by omega, rfl, by rw [eB]; exact .refl _, i0, m1.trans m2, by rw [eB, eS]; exact r2⟩ (ht _)
  rintro j s' ⟨k, y, hk, rfl, hb, iv, ms, led⟩
  by_cases hkn : k < n
  · refine Tr.use (steps.item (B y) k (S y) hb hkn) led fun r s3 m3 r3 => ?_
    obtain ⟨v, rfl, hv, r3⟩ := r3
    obtain ⟨T, ha, hbody⟩ := turn k y v ⟨I, st (k + 1)⟩ hkn hv (hle.trans hb) iv
    refine Tr.use ha r3 fun _ s4 m4 r4 => Tr.use hbody r4 fun f s5 m5 r5 => ?_
    obtain ⟨hf, y', hb', iv', led'⟩ := r5
    have fin : ∃ m, m < n - k ∧ ∃ k' y, k' ≤ n ∧ m = n - k' ∧ β'.le (B y) ∧ Inv k' y ∧ Sm s s5 ∧ Led (B y) (⟨I, st k'⟩ :: S y) s5.heap :=
      ⟨n - (k + 1), by omega, k + 1, y', by omega, rfl, hb.trans hb', iv', ((ms.trans m3).trans m4).trans m5, led'⟩
    rcases hf with rfl | rfl <;> exact fin
  · have e : k = n := by omega
    subst e
    refine Tr.use (steps.stop (B y) (S y) hb) led fun r s3 m3 r3 => ?_
    obtain ⟨rfl, r3⟩ := r3
    refine wpAny_execs_nil ?_
    exact Tr.use (kk y (hle.trans hb) iv) r3 fun f s4 m4 r4 => ⟨(ms.trans m3).trans m4, r4⟩

theorem tr_assignN {x : Str} {px : Pos} {v : Value} {S : Unit → Heap → Prop} (h : Tr (model prog w) A (storeName env x v) P S) : Tr (model prog w) A (assign (.Name x px) env v) P S := fun s hp => wpAny_assign_Name (h s hp)
theorem led_swap {i j : It} {h : Heap} (l : Led β (i :: j :: σ) h) : Led β (j :: i :: σ) h := l.perm (.swap ..)
/-- for x in ..: x a local name; the frame stands first -/
theorem ex_for {ι : Type} {x : Str} {px : Pos} {iter : Expr} {body : List Stmt} {pos : Pos} {n : Nat} {V : Nat → Value → Prop} (src : Src prog w A env β (fr env.locals m :: σ) iter n V) (B : ι → Base) (M : ι → Str → Option Value) (S : ι → List It) (Inv : Nat → ι → Prop)
    (h0 : ∀ β', β.le β' → ∃ y, B y = β' ∧ M y = m ∧ S y = σ ∧ Inv 0 y)
    (turn : ∀ k y v i, k < n → V k v → β.le (B y) → Inv k y →
      Ex prog w A env body (Led (B y) (fr env.locals (upd (M y) x v) :: i :: S y)) (fun f h => (f = .next ∨ f = .cont) ∧ ∃ y', (B y).le (B y') ∧ Inv (k + 1) y' ∧ Led (B y') (fr env.locals (M y') :: i :: S y') h))
    (kk : ∀ y, β.le (B y) → Inv n y → Ex prog w A env rest (Led (B y) (fr env.locals (M y) :: S y)) R) (hk : env.scope.kind = .function := by rfl) (hl : env.kindOf x = some .local := by rfl) (hs : ∀ x, foldedSetIterable iter env x = pure x := by intro _; rfl) :
    Ex prog w A env (.For (.Name x px) iter body [] pos :: rest) (Led β (fr env.locals m :: σ)) R :=
  ex_forG src B (fun y => fr env.locals (M y) :: S y) Inv (fun β' l => let ⟨y, a, b, c, d⟩ := h0 β' l; ⟨y, a, by rw [b, c], d⟩)
    (fun k y v i hk' hv hb iv => ⟨_, Tr.pre (tr_assignN (tr_store (.head (σ := i :: S y)) hk hl)) fun _ l => led_swap l, Tr.mono (turn k y v i hk' hv hb iv) fun f h ⟨q, y', a, b, c⟩ => ⟨q, y', a, b, led_swap c⟩⟩) kk hs
/-- for x in ..: x a cell -/
theorem ex_forC {ι : Type} {x : Str} {px : Pos} {c : Addr} {iter : Expr} {body : List Stmt} {pos : Pos} {n : Nat} {V : Nat → Value → Prop} {v₀ : Option Value} (src : Src prog w A env β (fr env.locals m :: cl c v₀ :: σ) iter n V) (hc : env.cells.lookup x = some c)
    (B : ι → Base) (M : ι → Str → Option Value) (C : ι → Option Value) (S : ι → List It) (Inv : Nat → ι → Prop)
    (h0 : ∀ β', β.le β' → ∃ y, B y = β' ∧ M y = m ∧ C y = v₀ ∧ S y = σ ∧ Inv 0 y)
    (turn : ∀ k y v i, k < n → V k v → β.le (B y) → Inv k y →
      Ex prog w A env body (Led (B y) (fr env.locals (M y) :: cl c (some v) :: i :: S y)) (fun f h => (f = .next ∨ f = .cont) ∧ ∃ y', (B y).le (B y') ∧ Inv (k + 1) y' ∧ Led (B y') (fr env.locals (M y') :: cl c (C y') :: i :: S y') h))
    (kk : ∀ y, β.le (B y) → Inv n y → Ex prog w A env rest (Led (B y) (fr env.locals (M y) :: cl c (C y) :: S y)) R) (hk : env.scope.kind = .function := by rfl) (hl : env.kindOf x = some .cell := by rfl) (hs : ∀ x, foldedSetIterable iter env x = pure x := by intro _; rfl) :
    Ex prog w A env (.For (.Name x px) iter body [] pos :: rest) (Led β (fr env.locals m :: cl c v₀ :: σ)) R :=
  ex_forG src B (fun y => fr env.locals (M y) :: cl c (C y) :: S y) Inv (fun β' l => let ⟨y, a, b, c, d, e⟩ := h0 β' l; ⟨y, a, by rw [b, c, d], e⟩)
    (fun k y v i hk' hv hb iv => ⟨_, Tr.pre (tr_assignN (tr_storeC hc (.tail (.head (σ := i :: S y))) hk hl)) fun _ l => l.perm (((List.Perm.swap _ _ _)).trans (.cons _ (.swap _ _ _))),
      Tr.mono (turn k y v i hk' hv hb iv) fun f h ⟨q, y', a, b, c⟩ => ⟨q, y', a, b, c.perm ((List.Perm.cons _ (.swap _ _ _)).trans (.swap _ _ _))⟩⟩) kk hs

/-! ### a def is called -/
def FnAt (β : Base) (a : Addr) (fd : FuncData) : Prop := (∃ o, β a = some o ∧ o.data = .func fd) ∧ ∃ c o vs t, fd.code = .ref c ∧ β c = some o ∧ o.data = .fields vs ∧ vs[1]? = some (.str fd.qualname t)
theorem FnAt.le {a : Addr} {fd : FuncData} (x : FnAt β a fd) (l : β.le β') : FnAt β' a fd :=
  ⟨let ⟨o, e, d⟩ := x.1; ⟨o, l _ _ e, d⟩, let ⟨c, o, vs, t, e, f, r⟩ := x.2; ⟨c, o, vs, t, e, l _ _ f, r⟩⟩
def NoLim (β : Base) : Prop := ∃ mc, NsB β cStatics mc ∧ mc "sys.recursionlimit" = none
theorem NoLim.le (x : NoLim β) (l : β.le β') : NoLim β' := let ⟨mc, n, e⟩ := x; ⟨mc, n.le l, e⟩

theorem tr_def {a : Addr} {fd : FuncData} {body : List Stmt} {args : List Value} {binds : List (Str × Value)} {S : Value → Heap → Prop} (hf : FnAt β a fd) (hn : NoLim β) (hroom : A.depth < recursionLimit)
    (hbody : fd.body = .stmts body) (hbind : bindArgs fd ⟨args, []⟩ = pure binds) (hcell : ∀ x ∈ fd.scope.names, x.2 ≠ .cell) (hloc : ∀ x ∈ binds, fd.scope.names.lookup x.1 = some .local)
    (h : ∀ L, Ex prog w (A.deeper (callEnv fd L a)) (callEnv fd L a) body (Led β (fr L (fun x => binds.reverse.lookup x) :: σ)) (fun f g => S (match f with | .ret v => v | _ => .none) g))
    (hco : fd.scope.isCoroutine = false := by rfl) (hgen : fd.scope.isGenerator = false := by rfl) (hk : fd.scope.kind = .function := by rfl) :
    Tr (model prog w) A (call (.ref a) args) (Led β σ) S := fun s hp => by
  obtain ⟨⟨o, ho, hd⟩, c, oc, vs, t, hc, hoc, hdc, hvs⟩ := hf
  obtain ⟨mc, hmc, hnone⟩ := hn
  refine wpAny_call (codeAny_call_def hroom (hp.kn _ _ ho) hd ⟨mc, hp.nsB hmc, hnone⟩ ⟨c, oc, vs, t, hc, hp.kn _ _ hoc, hdc, hvs⟩ hbody (BindsTo.of_eq hbind) hcell hloc (fun h₀ hns hk₀ => ?_) hco hgen hk)
  have hp' : Led β (fr s.heap.objs.size (fun x => binds.reverse.lookup x) :: σ) h₀ := by
    have q := hp.keeps hk₀
    refine ⟨q.kn, fun i hi => ?_, fun i hi => ?_, ?_⟩
    · rcases List.mem_cons.mp hi with rfl | hi
      · obtain ⟨o, es, ep, e, r⟩ := hns; exact ⟨o, e, es, ep, r⟩
      · exact q.own i hi
    · rcases List.mem_cons.mp hi with rfl | hi
      · exact hp.fresh_none
      · exact q.ap i hi
    · rw [List.map_cons, List.nodup_cons]
      refine ⟨fun z => ?_, q.nd⟩
      obtain ⟨j, hj, e⟩ := List.mem_map.mp z
      have := hp.lt hj
      rw [e] at this
      exact Nat.lt_irrefl _ this
  refine wpAny_mono (Tr.use (h s.heap.objs.size) (Q := fun f s' => Sm s s' ∧ S (match f with | .ret v => v | _ => .none) s'.heap) (E := fun _ _ => False) (s := { s with heap := h₀, toks := s.toks + binds.length }) hp' fun f s1 m1 r1 => ⟨⟨m1.1, m1.2⟩, r1⟩) (fun _ _ q => q) fun _ _ q => q.elim
end
end Mine

namespace Mine
section
variable {prog : Program} {w : World} {A : Around} {env : Env} {β β' : Base} {σ σ' : List It} {V V1 V2 V3 : Value → Prop} {m : Str → Option Value} {rest : List Stmt} {P Q : Heap → Prop} {R : Flow → Heap → Prop}

theorem tr_fn1 {x : Str} {p pos : Pos} {e : Expr} {a : Addr} {fd : FuncData} {S : Value → Heap → Prop} (hf : Ev prog w A env β σ (.Name x p) (· = .ref a)) (hfn : FnAt β a fd)
    (he : Ev prog w A env β σ e V1) (hc : ∀ v, V1 v → Tr (model prog w) A (call (.ref a) [v]) (Led β σ) S) (hs : starEach [e] env = [(false, eval e env)] := by rfl) :
    Tr (model prog w) A (eval (.Call (.Name x p) [e] [] pos) env) (Led β σ) S := fun s hp => by
  refine Call_Name1 (Tr.use hf hp fun g s1 m1 r1 => ?_) hs
  obtain ⟨rfl, r1⟩ := r1
  obtain ⟨⟨o, ho, hd⟩, _⟩ := hfn
  exact Calls.callWith_function (Calls.evalArgs_plain (Calls.spliced_cons (Tr.use he r1 fun v s2 m2 r2 => Calls.spliced_nil ⟨⟨r2.2.kn _ _ ho, hd⟩, Tr.use (hc v r2.1) r2.2 fun r s3 m3 r3 => ⟨(m1.trans m2).trans m3, r3⟩⟩)))
theorem tr_fn2 {x : Str} {p pos : Pos} {e e' : Expr} {a : Addr} {fd : FuncData} {S : Value → Heap → Prop} (hf : Ev prog w A env β σ (.Name x p) (· = .ref a)) (hfn : FnAt β a fd)
    (he : Ev prog w A env β σ e V1) (he' : Ev prog w A env β σ e' V2) (hc : ∀ v v', V1 v → V2 v' → Tr (model prog w) A (call (.ref a) [v, v']) (Led β σ) S) (hs : starEach [e, e'] env = [(false, eval e env), (false, eval e' env)] := by rfl) :
    Tr (model prog w) A (eval (.Call (.Name x p) [e, e'] [] pos) env) (Led β σ) S := fun s hp => by
  refine Call_Name2 (Tr.use hf hp fun g s1 m1 r1 => ?_) hs
  obtain ⟨rfl, r1⟩ := r1
  obtain ⟨⟨o, ho, hd⟩, _⟩ := hfn
  exact Calls.callWith_function (Calls.evalArgs_plain (Calls.spliced_cons (Tr.use he r1 fun v s2 m2 r2 => Calls.spliced_cons (Tr.use he' r2.2 fun v' s3 m3 r3 => Calls.spliced_nil ⟨⟨r3.2.kn _ _ ho, hd⟩, Tr.use (hc v v' r2.1 r3.1) r3.2 fun r s4 m4 r4 => ⟨((m1.trans m2).trans m3).trans m4, r4⟩⟩))))
theorem tr_fn3 {x : Str} {p pos : Pos} {e e' e'' : Expr} {a : Addr} {fd : FuncData} {S : Value → Heap → Prop} (hf : Ev prog w A env β σ (.Name x p) (· = .ref a)) (hfn : FnAt β a fd)
    (he : Ev prog w A env β σ e V1) (he' : Ev prog w A env β σ e' V2) (he'' : Ev prog w A env β σ e'' V3) (hc : ∀ v v' v'', V1 v → V2 v' → V3 v'' → Tr (model prog w) A (call (.ref a) [v, v', v'']) (Led β σ) S)
    (hs : backTo pos (starEach [e, e', e''] env) = [(false, eval e env), (false, eval e' env), (false, eval e'' env)] := by rfl) :
    Tr (model prog w) A (eval (.Call (.Name x p) [e, e', e''] [] pos) env) (Led β σ) S := fun s hp => by
  refine Call_Name hs (Tr.use hf hp fun g s1 m1 r1 => ?_)
  obtain ⟨rfl, r1⟩ := r1
  obtain ⟨⟨o, ho, hd⟩, _⟩ := hfn
  exact Calls.callWith_function (Calls.evalArgs_plain (Calls.spliced_cons (Tr.use he r1 fun v s2 m2 r2 => Calls.spliced_cons (Tr.use he' r2.2 fun v' s3 m3 r3 => Calls.spliced_cons (Tr.use he'' r3.2 fun v'' s4 m4 r4 => Calls.spliced_nil ⟨⟨r4.2.kn _ _ ho, hd⟩, Tr.use (hc v v' v'' r2.1 r3.1 r4.1) r4.2 fun r s5 m5 r5 => ⟨(((m1.trans m2).trans m3).trans m4).trans m5, r5⟩⟩)))))

/-! ### comprehensions -/
theorem tr_letOwned {target : Expr} {I : Addr} {ok : Obj → Prop} {v : Value} (hpl : ∀ o, ok o → ∃ T vs, o.cls = .type T ∧ o.data = .fields vs ∧ ownedIters.contains T = false) (hm : (⟨I, ok⟩ : It) ∈ σ) :
    Tr (model prog w) A (letOwnedTupleGo target (.ref I) v) (Led β σ) (fun _ h => Led β σ h) := fun s hp => by
  obtain ⟨o, ho, hk⟩ := hp.own _ hm
  obtain ⟨T, vs, hc, hd, hT⟩ := hpl o hk
  have fin : ∀ a : Addr, wpAny (model prog w) A (do
      let o ← load I
      match o.cls, o.data with
      | .type n, .fields vs =>
        if ownedIters.contains n && vs[0]? == some (rawInt a) then
          rule "for.unpacks-the-owned-tuple"
          updateField I 0 .none
      | _, _ => pure ()) (fun _ s' => Sm s s' ∧ Led β σ s'.heap) (fun _ _ => False) s := fun a => by
    refine wpAny_bind (wpAny_load ho ?_)
    rw [hc, hd]
    simp only [hT, Bool.false_and, Bool.false_eq_true, if_false]
    exact wpAny_pure ⟨Sm.refl s, hp⟩
  unfold letOwnedTupleGo
  cases target with
  | Tuple a b c =>
    cases v with
    | ref a => exact fin a
    | _ => exact wpAny_pure ⟨Sm.refl s, hp⟩
  | List a b =>
    cases v with
    | ref a => exact fin a
    | _ => exact wpAny_pure ⟨Sm.refl s, hp⟩
  | _ => exact wpAny_pure ⟨Sm.refl s, hp⟩
/-- the loop of a comprehension, its iterator at I, its list at D, its names at C -/
theorem comp_loop {elt target iter : Expr} {ifs : List Expr} {scope : Scope} {pos : Pos} {cenv : Env} {I D C : Addr} {n : Nat} {st : Nat → Obj → Prop} {V : Nat → Value → Prop} {cnd : Nat → Value → Bool}
    (steps : Steps prog w A β I n st V) (Acc : Nat → List Value → Base → Prop) (G : Nat → Value → (Str → Option Value) → Prop) (hn : n ≤ 1000)
    (hasg : ∀ k v ys β' m, k < n → V k v → β.le β' → Acc k ys β' → Tr (model prog w) A (assign target cenv v) (Led β' (fr C m :: ls D ys :: ⟨I, st (k + 1)⟩ :: σ)) (fun _ h => ∃ m', G k v m' ∧ Led β' (fr C m' :: ls D ys :: ⟨I, st (k + 1)⟩ :: σ) h))
    (htest : ∀ k v ys β' m', k < n → V k v → β.le β' → Acc k ys β' → G k v m' → Tr (model prog w) A (forIn ifs true fun c r => if r = true then do let ok ← PySem.isTrue c cenv (eval c cenv); pure (ForInStep.yield ok) else pure (ForInStep.yield r))
      (Led β' (fr C m' :: ls D ys :: ⟨I, st (k + 1)⟩ :: σ)) (fun b h => b = cnd k v ∧ Led β' (fr C m' :: ls D ys :: ⟨I, st (k + 1)⟩ :: σ) h))
    (hskip : ∀ k v ys β', k < n → V k v → β.le β' → Acc k ys β' → cnd k v = false → Acc (k + 1) ys β')
    (helt : ∀ k v ys β' m', k < n → V k v → β.le β' → Acc k ys β' → G k v m' → cnd k v = true → Tr (model prog w) A (eval elt cenv) (Led β' (fr C m' :: ls D ys :: ⟨I, st (k + 1)⟩ :: σ))
      (fun y h => ∃ β'', β'.le β'' ∧ Acc (k + 1) (ys ++ [y]) β'' ∧ Led β'' (fr C m' :: ls D ys :: ⟨I, st (k + 1)⟩ :: σ) h))
    {s : Shared} {β₁ : Base} {m₀ : Str → Option Value} {Rr : Result → Shared → Prop} (h1 : β.le β₁) (h0 : Acc 0 [] β₁) (hp : Led β₁ (fr C m₀ :: ls D [] :: ⟨I, st 0⟩ :: σ) s.heap)
    (fin : ∀ s' m ys β', Sm s s' → β.le β' → Acc n ys β' → Led β' (fr C m :: ls D ys :: σ) s'.heap → Rr (.ok .next) s') :
    codeAny (model prog w) A (.compLoop (.ListComp elt [⟨target, iter, ifs, 0⟩] scope pos) 0 (.ref I) (.ref D) cenv) Rr s := by
  refine codeAny_loop rfl (fun j s' => ∃ k ys m β', k ≤ n ∧ j = n - k ∧ ys.length ≤ k ∧ β.le β' ∧ Acc k ys β' ∧ Sm s s' ∧ Led β' (fr C m :: ls D ys :: ⟨I, st k⟩ :: σ) s'.heap) (fun j s' hI => ?_) n ⟨0, [], m₀, β₁, by omega, rfl, by simp, h1, h0, Sm.refl s, hp⟩
  obtain ⟨k, ys, m, β', hk, rfl, hy, hb, acc, ms, led⟩ := hI
  show wpAny _ A ((compTurn (.ListComp elt [⟨target, iter, ifs, 0⟩] scope pos) 0 (.ref I) (.ref D) cenv).onRaise (fun x => do noteFrame x cenv; theTreesLotGoes x)) _ _ s'
  refine wpAny_noted ?_
  rw [compTurn_list]
  refine wpAny_bind (wpAny_standAt (wpAny_bind ?_))
  have rot : ∀ {i j k : It} {σ : List It} {h : Heap} {β : Base}, Led β (i :: j :: k :: σ) h → Led β (k :: i :: j :: σ) h := fun l => l.perm (((List.Perm.swap _ _ _).cons _).trans (.swap _ _ _))
  have tor : ∀ {i j k : It} {σ : List It} {h : Heap} {β : Base}, Led β (k :: i :: j :: σ) h → Led β (i :: j :: k :: σ) h := fun l => l.perm ((List.Perm.swap _ _ _).trans ((List.Perm.swap _ _ _).cons _))
  by_cases hkn : k < n
  · refine Tr.use (steps.item β' k _ hb hkn) (rot led) fun r s3 m3 r3 => ?_
    obtain ⟨v, rfl, hv, r3⟩ := r3
    have r3 := tor r3
    have ha2 := hasg k v ys β' m hkn hv hb acc
    refine wpAny_bind (Tr.use (tr_letOwned (steps.plain (k + 1)) (.tail _ (.tail _ (.head _)))) r3 fun _ s4 m4 r4 => wpAny_bind (Tr.use ha2 r4 fun _ s5 m5 r5 => ?_))
    obtain ⟨m', g, r5⟩ := r5
    refine wpAny_bind (Tr.use (htest k v ys β' m' hkn hv hb acc g) r5 fun b s6 m6 r6 => ?_)
    obtain ⟨rfl, r6⟩ := r6
    have ms6 : Sm s s6 := (((ms.trans m3).trans m4).trans m5).trans m6
    cases hcv : cnd k v with
    | false =>
      exact wpAny_pure ⟨rfl, n - (k + 1), by omega, k + 1, ys, m', β', by omega, rfl, by omega, hb, hskip k v ys β' hkn hv hb acc hcv, ms6, r6⟩
    | true =>
      refine wpAny_bind (wpAny_bind (Tr.use (helt k v ys β' m' hkn hv hb acc g hcv) r6 fun y s7 m7 r7 => ?_))
      obtain ⟨β'', hb', acc', r7⟩ := r7
      refine wpAny_bind (Tr.use (tr_append1 (.tail .head) (by omega)) r7 fun r s8 m8 r8 => ?_)
      obtain ⟨rfl, r8⟩ := r8
      exact wpAny_pure (wpAny_pure ⟨rfl, n - (k + 1), by omega, k + 1, ys ++ [y], m', β'', by omega, rfl, by simp; omega, hb.trans hb', acc', (ms6.trans m7).trans m8, r8⟩)
  · have e : k = n := by omega
    subst e
    refine Tr.use (steps.stop β' _ hb) (rot led) fun r s3 m3 r3 => ?_
    obtain ⟨rfl, r3⟩ := r3
    exact wpAny_pure (fin s3 m ys β' (ms.trans m3) hb acc r3)

theorem led_comp {h h' : Heap} {o : Obj} (x : Led β σ h) (hn : h'.Ns h.objs.size (fun x => ([] : List (Str × Value)).reverse.lookup x)) (hs : Heap.SameBut h.objs.size (h.push o) h') : Led β (fr h.objs.size (fun _ => none) :: σ) h' := by
  have q := x.keeps fun b o e => hs.extBut b o (Nat.ne_of_lt (Heap.lt_size e)) (Heap.get?_push_of_some _ e)
  refine ⟨q.kn, fun i hi => ?_, fun i hi => ?_, ?_⟩
  · rcases List.mem_cons.mp hi with rfl | hi
    · obtain ⟨o, es, ep, e, r⟩ := hn; exact ⟨o, e, es, ep, r⟩
    · exact q.own i hi
  · rcases List.mem_cons.mp hi with rfl | hi
    · exact x.fresh_none
    · exact q.ap i hi
  · rw [List.map_cons, List.nodup_cons]
    refine ⟨fun z => ?_, q.nd⟩
    obtain ⟨j, hj, e⟩ := List.mem_map.mp z
    have := x.lt hj
    rw [e] at this
    exact Nat.lt_irrefl _ this

/-- what is to be shown of a comprehension -/
structure Comp (prog : Program) (w : World) (A : Around) (env : Env) (β : Base) (σ : List It) (elt target iter : Expr) (ifs : List Expr) (scope : Scope) (cl : List (Str × Addr)) (n : Nat) (Acc : Nat → List Value → Base → Prop) where
  V : Nat → Value → Prop
  cnd : Nat → Value → Bool
  G : Nat → Value → (Str → Option Value) → Prop
  src : Src prog w A env β σ iter n V
  hn : n ≤ 1000
  h0 : ∀ β', β.le β' → Acc 0 [] β'
  hasg : ∀ C i j k v β' m, k < n → V k v → β.le β' → Tr (model prog w) A (assign target (compEnvC scope cl C env) v) (Led β' (fr C m :: i :: j :: σ)) (fun _ h => ∃ m', G k v m' ∧ Led β' (fr C m' :: i :: j :: σ) h)
  htest : ∀ C i j k v β' m', k < n → V k v → β.le β' → G k v m' → Tr (model prog w) A (forIn ifs true fun c r => if r = true then do let ok ← PySem.isTrue c (compEnvC scope cl C env) (eval c (compEnvC scope cl C env)); pure (ForInStep.yield ok) else pure (ForInStep.yield r))
      (Led β' (fr C m' :: i :: j :: σ)) (fun b h => b = cnd k v ∧ Led β' (fr C m' :: i :: j :: σ) h)
  hskip : ∀ k v ys β', k < n → V k v → β.le β' → Acc k ys β' → cnd k v = false → Acc (k + 1) ys β'
  helt : ∀ C i j k v ys β' m', k < n → V k v → β.le β' → Acc k ys β' → G k v m' → cnd k v = true → Tr (model prog w) A (eval elt (compEnvC scope cl C env)) (Led β' (fr C m' :: i :: j :: σ))
      (fun y h => ∃ β'', β'.le β'' ∧ Acc (k + 1) (ys ++ [y]) β'' ∧ Led β'' (fr C m' :: i :: j :: σ) h)
  hs : ∀ x, foldedSetIterable iter env x = pure x
  hclos : closureFor scope env = pure cl
  hkind : scope.kind = .function
  hnames : ∀ x ∈ scope.names, x.2 = .local → scope.names.lookup x.1 = some .local
  hcell : ∀ x ∈ scope.names, x.2 ≠ .cell

theorem comp_gen {elt target iter : Expr} {ifs : List Expr} {scope : Scope} {pos : Pos} {cl : List (Str × Addr)} {n : Nat} {Acc : Nat → List Value → Base → Prop} (c : Comp prog w A env β σ elt target iter ifs scope cl n Acc)
    {use : Option (Value → Sem Unit)} {s : Shared} {Q : Value → Shared → Prop} (hp : Led β σ s.heap)
    (fin : ∀ s' C D m ys β', Sm s s' → β.le β' → Acc n ys β' → Led β' (fr C m :: ls D ys :: σ) s'.heap → compPost (model prog w) A (fun _ _ => False) use Q (.ref D) C (.ok .next) s') :
    wpAny (model prog w) A (comprehension (.ListComp elt [⟨target, iter, ifs, 0⟩] scope pos) scope env iter.pos (newList []) false (eval iter env) use) Q (fun _ _ => False) s := by
  obtain ⟨R1, h1, h2⟩ := c.src
  refine wpAny_comprehension_free (g := ⟨target, iter, ifs, 0⟩) (gs := []) rfl c.hs c.hclos c.hkind c.hnames (Tr.use h1 hp fun x s1 m1 r1 => Tr.use (h2 x) r1 fun it s2 m2 r2 => ?_)
  obtain ⟨I, st, β₁, rfl, hle, steps, r2⟩ := r2
  refine Tr.use (tr_new (xs := []) (a := fun _ => True) (by simp)) r2 fun acc s3 m3 r3 => ?_
  obtain ⟨D, rfl, r3⟩ := r3
  refine wpAny_newFunctionEnv c.hcell (fun x hx => nomatch hx) (fun h' hns hsb => ?_) c.hkind
  have r4 := led_comp r3 hns hsb
  have loop := fun (s' : Shared) (ms : Sm s s') (led : Led β₁ (fr s3.heap.objs.size (fun _ => none) :: ls D [] :: ⟨I, st 0⟩ :: σ) s'.heap) =>
    comp_loop (elt := elt) (target := target) (iter := iter) (ifs := ifs) (scope := scope) (pos := pos) (cenv := compEnvC scope cl s3.heap.objs.size env) (C := s3.heap.objs.size) (D := D) (σ := σ) (cnd := c.cnd) steps Acc c.G c.hn
      (fun k v ys β' m hk hv hb acc => c.hasg _ _ _ k v β' m hk hv (hle.trans hb))
      (fun k v ys β' m' hk hv hb acc g => c.htest _ _ _ k v β' m' hk hv (hle.trans hb) g)
      (fun k v ys β' hk hv hb acc hc => c.hskip k v ys β' hk hv (hle.trans hb) acc hc)
      (fun k v ys β' m' hk hv hb acc g hc => c.helt _ _ _ k v ys β' m' hk hv (hle.trans hb) acc g hc)
      (.refl _) (c.h0 β₁ hle) led (Rr := compPost (model prog w) A (fun _ _ => False) use Q (.ref D) s3.heap.objs.size)
      (fun s'' m ys β' ms' hb acc led' => fin s'' _ D m ys β' (ms.trans ms') (hle.trans hb) acc led')
  have ms4 : Sm s ({ s3 with heap := h', toks := s3.toks + ([] : List (Str × Value)).length } : Shared) := ⟨((m1.trans m2).trans m3).1, ((m1.trans m2).trans m3).2⟩
  refine codeAny_compStart_list (loop _ ms4 r4) ?_
  have rot : ∀ {i j k : It} {σ : List It} {h : Heap} {β : Base}, Led β (i :: j :: k :: σ) h → Led β (k :: i :: j :: σ) h := fun l => l.perm (((List.Perm.swap _ _ _).cons _).trans (.swap _ _ _))
  have tor : ∀ {i j k : It} {σ : List It} {h : Heap} {β : Base}, Led β (k :: i :: j :: σ) h → Led β (i :: j :: k :: σ) h := fun l => l.perm ((List.Perm.swap _ _ _).trans ((List.Perm.swap _ _ _).cons _))
  refine Tr.use (steps.again β₁ _ (.refl _)) (s := { s3 with heap := h', toks := s3.toks + ([] : List (Str × Value)).length }) (rot r4) fun r s5 m5 r5 => ?_
  obtain ⟨rfl, r5⟩ := r5
  exact loop _ (ms4.trans m5) (tor r5)

theorem led_letgo {h h' : Heap} {i : It} (x : Led β (i :: σ) h) (hs : Heap.SameBut i.a h h') : Led β σ h' := led_ext x hs.extBut

theorem tr_comp {elt target iter : Expr} {ifs : List Expr} {scope : Scope} {pos : Pos} {cl : List (Str × Addr)} {n : Nat} {Acc : Nat → List Value → Base → Prop} (c : Comp prog w A env β σ elt target iter ifs scope cl n Acc) :
    Tr (model prog w) A (eval (.ListComp elt [⟨target, iter, ifs, 0⟩] scope pos) env) (Led β σ) (fun v h => ∃ D ys β', v = .ref D ∧ β.le β' ∧ Acc n ys β' ∧ Led β' (ls D ys :: σ) h) := fun s hp => by
  rw [eval_ListComp]
  refine comp_gen c hp fun s' C D m ys β' ms hb acc led => ?_
  exact ⟨m, led.ns (.head _), fun h' hs => ⟨ms, D, ys, β', rfl, hb, acc, led_letgo led hs⟩⟩

/-- x = [.. for ..], x a local name: the name is bound before the comprehension's names are let go -/
theorem ex_compset {x : Str} {px pos' : Pos} {elt target iter : Expr} {ifs : List Expr} {scope : Scope} {pos : Pos} {cl : List (Str × Addr)} {n : Nat} {Acc : Nat → List Value → Base → Prop}
    (c : Comp prog w A env β (fr env.locals m :: σ) elt target iter ifs scope cl n Acc)
    (kk : ∀ D ys β', β.le β' → Acc n ys β' → Ex prog w A env rest (Led β' (fr env.locals (upd m x (.ref D)) :: ls D ys :: σ)) R)
    (hk : env.scope.kind = .function := by rfl) (hl : env.kindOf x = some .local := by rfl)
    (hs : swapsWith (.ListComp elt [⟨target, iter, ifs, 0⟩] scope pos) (some (.Name x px)) pos'.line env = pure true := by rfl) :
    Ex prog w A env (.Assign [.Name x px] (.ListComp elt [⟨target, iter, ifs, 0⟩] scope pos) pos' :: rest) (Led β (fr env.locals m :: σ)) R := fun s hp => by
  refine wpAny_execs_cons ?_
  rw [exec_Assign_Name_used x px _ pos' hs]
  refine wpAny_bind (wpAny_standAt (wpAny_bind ?_))
  show wpAny _ _ (do let _ ← comprehension (.ListComp elt [⟨target, iter, ifs, 0⟩] scope pos) scope env iter.pos (newList []) false (eval iter env) (some (assign (.Name x px) env))) _ _ s
  refine wpAny_bind ?_
  refine comp_gen c hp fun s' C D m' ys β' ms hb acc led => ?_
  refine Tr.use (tr_assignN (tr_store (.tail (.tail .head)) hk hl)) led fun _ s2 m2 r2 => ?_
  refine ⟨m', r2.ns (.head _), fun h' hsb => wpAny_pure (wpAny_pure ?_)⟩
  refine Tr.use (kk D ys β' hb acc) (led_swap (led_letgo r2 hsb)) fun f s3 m3 r3 => ⟨(ms.trans m2).trans ⟨m3.1, m3.2⟩, r3⟩
end
end Mine

namespace Mine

/-! ### the program's own things -/
def stmtAt (k : Nat) : Stmt := (PySem.Challenge.pw_du0010_01.main.body[k]?).getD (.Pass ⟨0, 0, 0, 0⟩)
def fdOf' (st : Stmt) (pm cd : Value) : FuncData := match st with
  | .FunctionDef name args body _ _ _ scope _ _ _ =>
    { name, qualname := name, params := args, body := .stmts body, scope, globals := mainGlobals, closure := [], defaults := .none, kwdefaults := .none, doc := .none, pyModule := pm, code := cd, builtins := builtinsNs }
  | _ => default
def bodyOf (k : Nat) : List Stmt := match stmtAt k with
  | .FunctionDef _ _ body _ _ _ _ _ _ _ => body
  | _ => []
def fdOf (k : Nat) (pm cd : Value) : FuncData := fdOf' (stmtAt k) pm cd
def Fn (β : Base) (a k : Nat) : Prop := ∃ pm cd, FnAt β a (fdOf k pm cd)

def Gl (β : Base) (x : Str) (v : Value) : Prop := ∃ mg, NsB β mainGlobals mg ∧ mg x = some v
def Bl (β : Base) (x : Str) (v : Value) : Prop := ∃ mg mb, NsB β mainGlobals mg ∧ mg x = none ∧ NsB β builtinsNs mb ∧ mb x = some v

structure Wd (β : Base) : Prop where
  nolim : NoLim β
  f1 : Fn β 21 1
  f2 : Fn β 28 2
  f3 : Fn β 35 3
  f4 : Fn β 42 4
  f5 : Fn β 49 5
  f6 : Fn β 56 6
  f7 : Fn β 63 7
  f8 : Fn β 70 8
  f9 : Fn β 77 9
  f10 : Fn β 84 10
  f12 : Fn β 91 12
  f13 : Fn β 96 13
  f14 : Fn β 103 14
  f15 : Fn β 108 15
  g1 : Gl β "heappop" (.ref 21)
  g2 : Gl β "heapreplace" (.ref 28)
  g3 : Gl β "heapify" (.ref 35)
  g4 : Gl β "_heappop_max" (.ref 42)
  g5 : Gl β "_heapreplace_max" (.ref 49)
  g6 : Gl β "_heapify_max" (.ref 56)
  g7 : Gl β "_siftdown" (.ref 63)
  g8 : Gl β "_siftup" (.ref 70)
  g9 : Gl β "_siftdown_max" (.ref 77)
  g10 : Gl β "_siftup_max" (.ref 84)
  g12 : Gl β "_law_value" (.ref 91)
  g13 : Gl β "_law_order" (.ref 96)
  g14 : Gl β "_law_next_head" (.ref 103)
  g15 : Gl β "_law_joined" (.ref 108)
  bLen : Bl β "len" (.builtin "len")
  bRange : Bl β "range" (.type "range")
  bReversed : Bl β "reversed" (.type "reversed")
  bAbs : Bl β "abs" (.builtin "abs")
  bSum : Bl β "sum" (.builtin "sum")
  bMin : Bl β "min" (.builtin "min")

theorem Gl.le {β β' : Base} {x : Str} {v : Value} (h : Gl β x v) (l : β.le β') : Gl β' x v := let ⟨mg, n, e⟩ := h; ⟨mg, n.le l, e⟩
theorem Bl.le {β β' : Base} {x : Str} {v : Value} (h : Bl β x v) (l : β.le β') : Bl β' x v := let ⟨mg, mb, n, e, n', e'⟩ := h; ⟨mg, mb, n.le l, e, n'.le l, e'⟩
theorem Fn.le {β β' : Base} {a k : Nat} (h : Fn β a k) (l : β.le β') : Fn β' a k := let ⟨pm, cd, f⟩ := h; ⟨pm, cd, f.le l⟩
theorem Wd.le {β β' : Base} (W : Wd β) (l : β.le β') : Wd β' :=
  ⟨W.nolim.le l, W.f1.le l, W.f2.le l, W.f3.le l, W.f4.le l, W.f5.le l, W.f6.le l, W.f7.le l, W.f8.le l, W.f9.le l, W.f10.le l, W.f12.le l, W.f13.le l, W.f14.le l, W.f15.le l,
   W.g1.le l, W.g2.le l, W.g3.le l, W.g4.le l, W.g5.le l, W.g6.le l, W.g7.le l, W.g8.le l, W.g9.le l, W.g10.le l, W.g12.le l, W.g13.le l, W.g14.le l, W.g15.le l,
   W.bLen.le l, W.bRange.le l, W.bReversed.le l, W.bAbs.le l, W.bSum.le l, W.bMin.le l⟩

section
variable {prog : Program} {w : World} {A : Around} {env : Env} {β β' : Base} {σ σ' : List It}
theorem ev_gl {x : Str} {pos : Pos} {v : Value} (h : Gl β x v) (hg : env.globals = mainGlobals := by rfl) (hk : env.scope.kind = .function := by rfl) (hl : env.kindOf x = some .globalImplicit := by rfl) (hd : (x == ("__debug__" : Str)) = false := by decide) :
    Ev prog w A env β σ (.Name x pos) (· = v) := let ⟨mg, n, e⟩ := h; ev_glob (by rw [hg]; exact n) e hk hl hd
theorem ev_bl {x : Str} {pos : Pos} {v : Value} (h : Bl β x v) (hg : env.globals = mainGlobals := by rfl) (hb : env.builtins = builtinsNs := by rfl) (hk : env.scope.kind = .function := by rfl) (hl : env.kindOf x = some .globalImplicit := by rfl) (hd : (x == ("__debug__" : Str)) = false := by decide) :
    Ev prog w A env β σ (.Name x pos) (· = v) := let ⟨mg, mb, n, e, n', e'⟩ := h; ev_builtin (by rw [hg]; exact n) e (by rw [hb]; exact n') e' hk hl hd
end

/-! ### room -/
def Rm (k : Nat) (A : Around) : Prop := A.handled = none ∧ A.depth + k < recursionLimit ∧ A.units + 8 * k < cLine
theorem Rm.up {k : Nat} {A : Around} {env : Env} (h : Rm (k + 1) A) : Rm k (A.deeper env) := ⟨h.1, by have := h.2.1; show A.depth + 1 + k < _; omega, by have := h.2.2; show A.units + 3 + 8 * k < _; omega⟩
theorem Rm.less {k j : Nat} {A : Around} (h : Rm k A) (hj : j ≤ k) : Rm j A := ⟨h.1, by have := h.2.1; omega, by have := h.2.2; omega⟩
theorem Rm.depth {k : Nat} {A : Around} (h : Rm k A) : A.depth < recursionLimit := by have := h.2.1; omega
theorem Rm.units {k : Nat} {A : Around} (h : Rm k A) : A.units < cLine := by have := h.2.2; omega

/-! ### tests of the shape -/
example : bodyOf 7 ≠ [] := by decide +kernel
example : (fdOf 7 .none .none).body = .stmts (bodyOf 7) := rfl
example (L : Addr) (pm cd : Value) : (callEnv (fdOf 7 pm cd) L 63).kindOf ("pos" : Str) = some .local := rfl
example (L : Addr) (pm cd : Value) : (callEnv (fdOf 7 pm cd) L 63).globals = mainGlobals := rfl
example (pm cd a b c : Value) : bindArgs (fdOf 7 pm cd) ⟨[a, b, c], []⟩ = pure [(("heap" : Str), a), (("startpos" : Str), b), (("pos" : Str), c)] := rfl
end Mine

namespace Mine
section
variable {prog : Program} {w : World} {A : Around} {env : Env} {β β' : Base} {σ σ' : List It} {m : Str → Option Value} {rest : List Stmt} {P Q : Heap → Prop} {R : Flow → Heap → Prop}
theorem ex_setv {x : Str} {px pos : Pos} {e : Expr} {v : Value} (he : Ev prog w A env β (fr env.locals m :: σ) e (· = v))
    (k : Ex prog w A env rest (Led β (fr env.locals (upd m x v) :: σ)) R)
    (hk : env.scope.kind = .function := by rfl) (hl : env.kindOf x = some .local := by rfl) (hs : swapsWith e (some (.Name x px)) pos.line env = pure false := by rfl) :
    Ex prog w A env (.Assign [.Name x px] e pos :: rest) (Led β (fr env.locals m :: σ)) R := ex_set he (fun _ q => by subst q; exact k) hk hl hs
theorem ex_seti {x : Str} {px pos : Pos} {e : Expr} {i : Int} (he : Ev prog w A env β (fr env.locals m :: σ) e (IsI i))
    (k : ∀ t, Ex prog w A env rest (Led β (fr env.locals (upd m x (.int i t)) :: σ)) R)
    (hk : env.scope.kind = .function := by rfl) (hl : env.kindOf x = some .local := by rfl) (hs : swapsWith e (some (.Name x px)) pos.line env = pure false := by rfl) :
    Ex prog w A env (.Assign [.Name x px] e pos :: rest) (Led β (fr env.locals m :: σ)) R := ex_set he (fun _ ⟨t, q⟩ => by subst q; exact k t) hk hl hs
theorem ex_setitemv {o i e : Expr} {p' pos : Pos} {a : Addr} {xs : List Value} {k : Int} {v : Value} (he : Ev prog w A env β σ e (· = v)) (ho : Ev prog w A env β σ o (· = .ref a)) (hi : Ev prog w A env β σ i (IsI k))
    (u : UpI (ls a xs) (ls a (xs.set k.toNat v)) σ σ') (h0 : 0 ≤ k) (hk : k < xs.length) (kk : Ex prog w A env rest (Led β σ') R)
    (hs : swapsWith e (some (o.Subscript i p')) pos.line env = pure false := by rfl) : Ex prog w A env (.Assign [.Subscript o i p'] e pos :: rest) (Led β σ) R := fun s hp =>
  wpAny_execs_cons (wpAny_Assign_Subscript (Tr.use he hp fun v s1 m1 r1 => Tr.use ho r1.2 fun ov s2 m2 r2 => Tr.use hi r2.2 fun iv s3 m3 r3 => by
    obtain ⟨rfl, r1⟩ := r1
    obtain ⟨rfl, r2⟩ := r2
    obtain ⟨⟨t, rfl⟩, r3⟩ := r3
    refine Tr.use (tr_setItem u h0 hk) r3 fun _ s4 m4 r4 => ?_
    exact Tr.use kk r4 fun f s5 m5 r5 => ⟨(((m1.trans m2).trans m3).trans m4).trans m5, r5⟩) hs)
/-- an int's name -/
theorem ev_namei {x : Str} {pos : Pos} {i : Int} {t : Tok} (hm : fr env.locals m ∈ σ) (hv : m x = some (.int i t))
    (hk : env.scope.kind = .function := by rfl) (hl : env.kindOf x = some .local := by rfl) (hd : (x == ("__debug__" : Str)) = false := by decide) :
    Ev prog w A env β σ (.Name x pos) (IsI i) := (ev_name hm hv hk hl hd).mono fun v e => ⟨t, e⟩
theorem Ts.of {e : Expr} {c d : Bool} (h : Ts prog w A env β σ e c) (q : c = d) : Ts prog w A env β σ e d := q ▸ h
/-- an if whose ways meet -/
theorem ex_ifQ {t : Expr} {b o : List Stmt} {pos : Pos} {c : Bool} (ht : Ts prog w A env β σ t c) (h1 : c = true → Ex prog w A env b (Led β σ) (fun f h => f = .next ∧ Q h)) (h2 : c = false → Ex prog w A env o (Led β σ) (fun f h => f = .next ∧ Q h))
    (k : Ex prog w A env rest Q R) : Ex prog w A env (.If t b o pos :: rest) (Led β σ) R :=
  ex_if ht (fun e => Ex.mono (h1 e) fun f g ⟨e, q⟩ => by subst e; exact wp_of k q) (fun e => Ex.mono (h2 e) fun f g ⟨e, q⟩ => by subst e; exact wp_of k q)
theorem fdOf'_scope (st : Stmt) (pm cd pm' cd' : Value) : (fdOf' st pm cd).scope = (fdOf' st pm' cd').scope := by cases st <;> rfl
theorem fdOf_scope (k : Nat) (pm cd pm' cd' : Value) : (fdOf k pm cd).scope = (fdOf k pm' cd').scope := fdOf'_scope _ _ _ _ _
theorem tr_fun {k a j : Nat} {args : List Value} {binds : List (Str × Value)} {S : Value → Heap → Prop} (F : Fn β a k) (hn : NoLim β) (hR : Rm (j + 1) A)
    (hbind : ∀ pm cd, bindArgs (fdOf k pm cd) ⟨args, []⟩ = pure binds) (hbody : ∀ pm cd, (fdOf k pm cd).body = .stmts (bodyOf k))
    (hsc : ((fdOf k .none .none).scope.names.all (fun x => decide (x.2 ≠ .cell)) && !(fdOf k .none .none).scope.isCoroutine && !(fdOf k .none .none).scope.isGenerator && decide ((fdOf k .none .none).scope.kind = .function)) = true)
    (hloc : (binds.all fun x => decide ((fdOf k .none .none).scope.names.lookup x.1 = some .local)) = true)
    (h : ∀ L pm cd A', Rm j A' → Ex prog w A' (callEnv (fdOf k pm cd) L a) (bodyOf k) (Led β (fr L (fun x => binds.reverse.lookup x) :: σ)) (fun f g => S (match f with | .ret v => v | _ => .none) g)) :
    Tr (model prog w) A (call (.ref a) args) (Led β σ) S := by
  obtain ⟨pm, cd, hf⟩ := F
  simp only [Bool.and_eq_true, Bool.not_eq_true', List.all_eq_true, decide_eq_true_eq] at hsc hloc
  obtain ⟨⟨⟨h1, h2⟩, h3⟩, h4⟩ := hsc
  have e := fdOf_scope k pm cd .none .none
  exact tr_def hf hn hR.depth (hbody pm cd) (hbind pm cd) (by rw [e]; exact h1) (by rw [e]; exact hloc) (fun L => h L pm cd _ hR.up) (by rw [e]; exact h2) (by rw [e]; exact h3) (by rw [e]; exact h4)
end
end Mine

namespace Mine
local macro_rules | `(tactic| ktr_rel) => `(tactic| first | exact upd_self | assumption | (refine (upd_ne (by decide)).trans ?_; ktr_rel))

def CmpOk (prog : Program) (w : World) (β : Base) (lt : Value → Value → Bool) (S : Value → Prop) : Prop :=
  ∀ β' A σ v u, β.le β' → A.units < cLine → S v → S u → Tr (model prog w) A (compareOp .Lt v u) (Led β' σ) (fun r h => r = .bool (lt v u) ∧ Led β' σ h)
theorem CmpOk.le {prog : Program} {w : World} {β β' : Base} {lt : Value → Value → Bool} {S : Value → Prop} (h : CmpOk prog w β lt S) (l : β.le β') : CmpOk prog w β' lt S := fun b A σ v u q => h b A σ v u (l.trans q)

theorem fdiv2 (p : Nat) (hp : 0 < p) : Int.fdiv ((p : Int) - 1) (2 ^ (1 : Int).toNat) = (((p - 1) / 2 : Nat) : Int) := by
  have e : ((p : Int) - 1) = ((p - 1 : Nat) : Int) := by omega
  rw [e]
  rw [Int.fdiv_eq_ediv_of_nonneg _ (by decide)]
  norm_cast

structure SdSt where
  m : Str → Option Value
  ys : List Value
  p : Nat
  tp : Tok

/-- the order of the heap on places of a list of values -/
def HpL (lo : Value → Value → Bool) (s : Nat) (xs : List Value) : Prop := Hp lo s xs.length (fn .none xs)
/-- the invariant of siftdown's loop -/
structure SdL (lo : Value → Value → Bool) (x : Value) (s : Nat) (vs ys : List Value) (p : Nat) : Prop where
  len : ys.length = vs.length
  mem : ∀ y ∈ ys, y ∈ vs
  inv : SdI lo x s vs.length (fn .none ys) p
  perm : (ys.set p x).Perm vs
structure SuL (lo : Value → Value → Bool) (x : Value) (s : Nat) (vs ys : List Value) (p : Nat) : Prop where
  len : ys.length = vs.length
  mem : ∀ y ∈ ys, y ∈ vs
  inv : SuI lo s vs.length (fn .none ys) p
  perm : (ys.set p x).Perm vs
theorem mem_set_of {ys vs : List Value} {p : Nat} {v : Value} (h : ∀ y ∈ ys, y ∈ vs) (hv : v ∈ vs) : ∀ y ∈ ys.set p v, y ∈ vs := fun y hy => by
  rcases List.mem_or_eq_of_mem_set hy with q | q
  · exact h y q
  · rw [q]; exact hv
theorem SdL.step {lo : Value → Value → Bool} {x y : Value} {s p : Nat} {vs ys : List Value} (O : Ord lo) (h : SdL lo x s vs ys p) (hp : s < p) (hy : ys[(p - 1) / 2]? = some y) (hl : lo x y = true) : SdL lo x s vs (ys.set p y) ((p - 1) / 2) := by
  have hlt : p < ys.length := by rw [h.len]; exact h.inv.lt
  obtain ⟨hq, e⟩ := List.getElem?_eq_some_iff.mp hy
  have ey := fn_get (d := Value.none) hy
  refine ⟨by rw [List.length_set]; exact h.len, mem_set_of h.mem (h.mem y (e ▸ List.getElem_mem hq)), ?_, ?_⟩
  · rw [fn_set hlt, ← ey]; exact h.inv.step O hp (by rw [ey]; exact hl)
  · rw [← e]; exact (perm_step hlt hq (by omega)).trans h.perm
theorem SdL.stop {lo : Value → Value → Bool} {x : Value} {s p : Nat} {vs ys : List Value} (h : SdL lo x s vs ys p) (hd : ¬ s < p ∨ ∃ y, ys[(p - 1) / 2]? = some y ∧ lo x y = false) : (ys.set p x).Perm vs ∧ HpL lo s (ys.set p x) := by
  have hlt : p < ys.length := by rw [h.len]; exact h.inv.lt
  refine ⟨h.perm, ?_⟩
  unfold HpL
  rw [List.length_set, fn_set hlt, h.len]
  refine h.inv.stop (hd.imp id fun ⟨y, hy, q⟩ => ?_)
  rw [fn_get hy]; exact q
theorem SuL.step {lo : Value → Value → Bool} {x y : Value} {s p c : Nat} {vs ys : List Value} (h : SuL lo x s vs ys p) (c0 : 1 ≤ c) (hc : (c - 1) / 2 = p) (hy : ys[c]? = some y)
    (hsib : ∀ (e : Nat) (z : Value), 1 ≤ e → (e - 1) / 2 = p → e ≠ c → ys[e]? = some z → lo z y = false) : SuL lo x s vs (ys.set p y) c := by
  have hlt : p < ys.length := by rw [h.len]; exact h.inv.lt
  obtain ⟨hq, e⟩ := List.getElem?_eq_some_iff.mp hy
  have ey := fn_get (d := Value.none) hy
  refine ⟨by rw [List.length_set]; exact h.len, mem_set_of h.mem (h.mem y (e ▸ List.getElem_mem hq)), ?_, ?_⟩
  · rw [fn_set hlt, ← ey]
    refine h.inv.step c0 hc (by rw [← h.len]; exact hq) fun i i1 i2 i3 i4 => ?_
    rw [← h.len] at i2
    have hz : ys[i]? = some ys[i] := List.getElem?_eq_getElem i2
    rw [ey, fn_get hz]; exact hsib i _ i1 i3 i4 hz
  · rw [← e]; exact (perm_step hlt hq (by omega)).trans h.perm

section
variable {prog : Program} {w : World} {A : Around} {β : Base} {σ : List It}

/-! #### the least first -/
theorem sd_body {L H : Addr} {pm cd : Value} {vs : List Value} {s p : Nat} {ts tp : Tok} {x : Value} {lo : Value → Value → Bool} (hR : Rm 0 A)
    (I : List Value → Nat → Prop) (Fin : List Value → Prop) {S : Value → Prop} (cmp : CmpOk prog w β lo S) (hx : vs[p]? = some x) (hSx : S x) (h0 : I vs p)
    (hlen : ∀ ys p, I ys p → p < ys.length ∧ ∀ y ∈ ys, S y)
    (hstep : ∀ (ys : List Value) (p : Nat) (y : Value), I ys p → s < p → ys[(p - 1) / 2]? = some y → lo x y = true → I (ys.set p y) ((p - 1) / 2))
    (hstop : ∀ (ys : List Value) (p : Nat), I ys p → (¬ s < p ∨ ∃ y, ys[(p - 1) / 2]? = some y ∧ lo x y = false) → Fin (ys.set p x)) {m : Str → Option Value}
    (m1 : m "heap" = some (.ref H)) (m2 : m "startpos" = some (.int s ts)) (m3 : m "pos" = some (.int p tp)) :
    Ex prog w A (callEnv (fdOf 7 pm cd) L 63) (bodyOf 7) (Led β (fr L m :: ls H vs :: σ)) (fun f h => f = .next ∧ ∃ m ys, Fin ys ∧ Led β (fr L m :: ls H ys :: σ) h) := by
  refine ex_setv (v := x) ?_ ?_
  · exact ev_item (k := p) (ev_name (.head _) m1) (ev_namei (.head _) m3) (.inl (.tail _ (.head _))) (by omega) (by simpa using hx)
  let C : SdSt → Prop := fun y => I y.ys y.p ∧ y.m "heap" = some (.ref H) ∧ y.m "startpos" = some (.int s ts) ∧ y.m "pos" = some (.int y.p y.tp) ∧ y.m "newitem" = some x
  refine Ex.pre (ex_while (ι := SdSt) (fun y h => C y ∧ Led β (fr L y.m :: ls H y.ys :: σ) h) (fun y => y.p) (B := fun y h => (C y ∧ s < y.p) ∧ Led β (fr L y.m :: ls H y.ys :: σ) h)
    (D := fun h => ∃ y : SdSt, (C y ∧ (¬ s < y.p ∨ ∃ z, y.ys[(y.p - 1) / 2]? = some z ∧ lo x z = false)) ∧ Led β (fr L y.m :: ls H y.ys :: σ) h) ?_ ?_ ?_ ⟨upd m "newitem" x, vs, p, tp⟩) fun g l => ⟨⟨h0, by ktr_rel, by ktr_rel, by ktr_rel, by ktr_rel⟩, l⟩
  · intro y
    refine Tr.and fun c => ?_
    obtain ⟨hI, c1, c2, c3, c4⟩ := c
    refine Tr.mono (ts_gt (ev_namei (.head _) c3) (ev_namei (.head _) c2)) fun b h q => ?_
    obtain ⟨rfl, q⟩ := q
    by_cases hlt : s < y.p
    · rw [if_pos (by simpa using hlt)]; exact ⟨⟨⟨hI, c1, c2, c3, c4⟩, hlt⟩, q⟩
    · rw [if_neg (by simpa using hlt)]; exact ⟨y, ⟨⟨hI, c1, c2, c3, c4⟩, .inl hlt⟩, q⟩
  · intro y
    refine ex_and fun c => ?_
    obtain ⟨⟨hI, c1, c2, c3, c4⟩, hlt⟩ := c
    obtain ⟨hl, hS⟩ := hlen _ _ hI
    refine ex_seti (i := ((y.p - 1) / 2 : Nat)) ?_ fun t1 => ?_
    · exact (ev_shr (ev_sub (ev_namei (.head _) c3) ev_int) ev_int (by decide)).mono fun v q => q.of (fdiv2 _ (by omega))
    have hq : (y.p - 1) / 2 < y.ys.length := by omega
    refine ex_setv (v := y.ys[(y.p - 1) / 2]) ?_ ?_
    · exact ev_item (k := ((y.p - 1) / 2 : Nat)) (ev_name (.head _) (by ktr_rel)) (ev_namei (.head _) (by ktr_rel)) (.inl (.tail _ (.head _))) (by omega) (by rw [Int.toNat_natCast]; exact List.getElem?_eq_getElem hq)
    have hz : y.ys[(y.p - 1) / 2]? = some y.ys[(y.p - 1) / 2] := by simp [hq]
    refine ex_if (c := lo x y.ys[(y.p - 1) / 2]) ?_ ?_ ?_
    · exact ts_cmp (ev_name (.head _) (by ktr_rel)) (ev_name (.head _) (by ktr_rel)) fun a b e e' => by subst e e'; exact cmp _ _ _ _ _ (.refl _) hR.units hSx (hS _ (List.getElem_mem hq))
    · intro hc
      refine ex_setitemv (a := H) (k := y.p) (xs := y.ys) (v := y.ys[(y.p - 1) / 2]) ?_ ?_ ?_ (.tail .head) (by omega) (by omega) ?_
      · exact ev_name (.head _) (by ktr_rel)
      · exact ev_name (.head _) (by ktr_rel)
      · exact ev_namei (.head _) (by ktr_rel)
      refine ex_setv (v := .int ((y.p - 1) / 2 : Nat) t1) ?_ ?_
      · exact ev_name (.head _) (by ktr_rel)
      refine ex_cont fun g l => ?_
      refine ⟨⟨_, y.ys.set y.p y.ys[(y.p - 1) / 2], (y.p - 1) / 2, t1⟩, by show (y.p - 1) / 2 < y.p; omega, ?_, l⟩
      exact ⟨hstep _ _ _ hI hlt hz hc, by ktr_rel, by ktr_rel, by ktr_rel, by ktr_rel⟩
    · intro hc
      refine ex_end (ex_brk fun g l => ?_)
      refine ⟨⟨_, y.ys, y.p, y.tp⟩, ?_, l⟩
      exact ⟨⟨hI, by ktr_rel, by ktr_rel, by ktr_rel, by ktr_rel⟩, .inr ⟨_, hz, hc⟩⟩
  · refine ex_ex fun y => ex_and fun c => ?_
    obtain ⟨⟨hI, c1, c2, c3, c4⟩, hd⟩ := c
    obtain ⟨hl, hS⟩ := hlen _ _ hI
    refine ex_setitemv (a := H) (k := y.p) (xs := y.ys) (v := x) ?_ ?_ ?_ (.tail .head) (by omega) (by omega) ?_
    · exact ev_name (.head _) (by ktr_rel)
    · exact ev_name (.head _) (by ktr_rel)
    · exact ev_namei (.head _) (by ktr_rel)
    exact ex_nil fun g l => ⟨rfl, _, _, hstop _ _ hI hd, l⟩

theorem sd_ok {H : Addr} {vs : List Value} {s p : Nat} {vS vP x : Value} {lo : Value → Value → Bool} (W : Wd β) (hR : Rm 1 A) (O : Ord lo) {S : Value → Prop} (cmp : CmpOk prog w β lo S) (hS : ∀ y ∈ vs, S y)
    (hx : vs[p]? = some x) (h0 : SdI lo x s vs.length (fn .none vs) p) (eS : IsI s vS) (eP : IsI p vP) :
    Tr (model prog w) A (call (.ref 63) [.ref H, vS, vP]) (Led β (ls H vs :: σ)) (fun r h => r = .none ∧ ∃ ys, (ys.Perm vs ∧ HpL lo s ys) ∧ Led β (ls H ys :: σ) h) := by
  obtain ⟨ts, rfl⟩ := eS
  obtain ⟨tp, rfl⟩ := eP
  refine tr_fun (binds := [(("heap" : Str), .ref H), (("startpos" : Str), .int s ts), (("pos" : Str), .int p tp)]) W.f7 W.nolim hR (fun _ _ => rfl) (fun _ _ => rfl) (by decide +kernel) (by rfl) fun L pm cd A' hR' => ?_
  have hp : p < vs.length := h0.lt
  have hxm : x ∈ vs := List.mem_of_getElem? hx
  refine Ex.mono (sd_body (s := s) (p := p) (ts := ts) (tp := tp) (x := x) (lo := lo) hR' (SdL lo x s vs) (fun ys => ys.Perm vs ∧ HpL lo s ys) cmp hx (hS x hxm) ⟨rfl, fun _ h => h, h0, by rw [perm_set_self hx]⟩ ?_ ?_ ?_ rfl rfl rfl) ?_
  · exact fun ys p h => ⟨by rw [h.len]; exact h.inv.lt, fun y hy => hS y (h.mem y hy)⟩
  · exact fun ys p y h hlt hy hl => h.step O hlt hy hl
  · exact fun ys p h hd => h.stop hd
  · rintro f h ⟨rfl, m, ys, hF, l⟩
    exact ⟨rfl, ys, hF, l.tail⟩

/-! siftup -/
structure SuSt where
  m : Str → Option Value
  ys : List Value
  p : Nat
  tp : Tok
  tc : Tok

theorem su_ok {H : Addr} {vs : List Value} {s : Nat} {vP : Value} {lo : Value → Value → Bool} (W : Wd β) (hR : Rm 2 A) (O : Ord lo) {S : Value → Prop} (cmp : CmpOk prog w β lo S) (hS : ∀ y ∈ vs, S y)
    (hs : s < vs.length) (h0 : HpL lo (s + 1) vs) (eP : IsI s vP) (hlen : vs.length ≤ 1000) :
    Tr (model prog w) A (call (.ref 70) [.ref H, vP]) (Led β (ls H vs :: σ)) (fun r h => r = .none ∧ ∃ ys, (ys.Perm vs ∧ HpL lo s ys) ∧ Led β (ls H ys :: σ) h) := by
  obtain ⟨ts, rfl⟩ := eP
  refine tr_fun (binds := [(("heap" : Str), .ref H), (("pos" : Str), .int s ts)]) W.f8 W.nolim hR (fun _ _ => rfl) (fun _ _ => rfl) (by decide +kernel) (by rfl) fun L pm cd A' hR' => ?_
  have m1 : (fun x => ([(("heap" : Str), Value.ref H), (("pos" : Str), Value.int s ts)] : List (Str × Value)).reverse.lookup x) "heap" = some (.ref H) := rfl
  have m2 : (fun x => ([(("heap" : Str), Value.ref H), (("pos" : Str), Value.int s ts)] : List (Str × Value)).reverse.lookup x) "pos" = some (.int s ts) := rfl
  generalize (fun x => ([(("heap" : Str), Value.ref H), (("pos" : Str), Value.int s ts)] : List (Str × Value)).reverse.lookup x) = m at m1 m2
  obtain ⟨x, hx⟩ : ∃ x, vs[s]? = some x := ⟨_, List.getElem?_eq_getElem hs⟩
  refine ex_seti (i := vs.length) ?_ fun te => ?_
  · exact ev_len (ev_bl W.bLen) (ev_name (.head _) m1) (.inl (.tail _ (.head _)))
  refine ex_setv (v := .int s ts) ?_ ?_
  · exact ev_name (.head _) (by ktr_rel)
  refine ex_setv (v := x) ?_ ?_
  · exact ev_item (k := s) (ev_name (.head _) (by ktr_rel)) (ev_namei (.head _) (by ktr_rel)) (.inl (.tail _ (.head _))) (by omega) (by simpa using hx)
  refine ex_seti (i := (2 * s + 1 : Nat)) ?_ fun tc => ?_
  · exact (ev_add (ev_mul ev_int (ev_namei (.head _) (by ktr_rel)) (.of_left (by decide))) ev_int).mono fun v q => q.of (by omega)
  let C : SuSt → Prop := fun y => SuL lo x s vs y.ys y.p ∧ y.m "heap" = some (.ref H) ∧ y.m "startpos" = some (.int s ts) ∧ y.m "pos" = some (.int y.p y.tp) ∧ y.m "newitem" = some x ∧ y.m "endpos" = some (.int vs.length te) ∧
    y.m "childpos" = some (.int (2 * y.p + 1 : Nat) y.tc)
  refine Ex.pre (ex_while (ι := SuSt) (fun y h => C y ∧ Led β (fr L y.m :: ls H y.ys :: σ) h) (fun y => vs.length - y.p) (B := fun y h => (C y ∧ 2 * y.p + 1 < vs.length) ∧ Led β (fr L y.m :: ls H y.ys :: σ) h)
    (D := fun h => ∃ y : SuSt, (C y ∧ vs.length ≤ 2 * y.p + 1) ∧ Led β (fr L y.m :: ls H y.ys :: σ) h) ?_ ?_ ?_ ⟨_, vs, s, ts, tc⟩) fun g l => ⟨⟨⟨rfl, fun _ h => h, .start hs h0, by rw [perm_set_self hx]⟩, by ktr_rel, by ktr_rel, by ktr_rel, by ktr_rel, by ktr_rel, by ktr_rel⟩, l⟩
  · intro y
    refine Tr.and fun c => ?_
    obtain ⟨hI, c1, c2, c3, c4, c5, c6⟩ := id c
    refine Tr.mono (ts_lt (ev_namei (.head _) c6) (ev_namei (.head _) c5)) fun b h q => ?_
    obtain ⟨rfl, q⟩ := q
    by_cases hlt : 2 * y.p + 1 < vs.length
    · rw [if_pos (by simp; omega)]; exact ⟨⟨c, hlt⟩, q⟩
    · rw [if_neg (by simp; omega)]; exact ⟨y, ⟨c, by omega⟩, q⟩
  · intro y
    refine ex_and fun c => ?_
    obtain ⟨⟨hI, c1, c2, c3, c4, c5, c6⟩, hlt⟩ := c
    have hyl := hI.len
    have hyp : y.p < y.ys.length := by omega
    refine ex_seti (i := (2 * y.p + 2 : Nat)) ?_ fun t1 => ?_
    · exact (ev_add (ev_namei (.head _) c6) ev_int).mono fun v q => q.of (by omega)
    have hl : 2 * y.p + 1 < y.ys.length := by omega
    have hzl : y.ys[2 * y.p + 1]? = some y.ys[2 * y.p + 1] := List.getElem?_eq_getElem hl
    have left : lo y.ys[2 * y.p + 1] (fn .none y.ys (2 * y.p + 2)) = true ∨ y.ys.length ≤ 2 * y.p + 2 → SuL lo x s vs (y.ys.set y.p y.ys[2 * y.p + 1]) (2 * y.p + 1) := fun hh => by
      refine hI.step (by omega) (by omega) hzl fun e z k1 k2 k3 k4 => ?_
      have ee : e = 2 * y.p + 2 := by omega
      subst ee
      rcases hh with hh | hh
      · rw [fn_get k4] at hh; exact O.as _ _ hh
      · exact absurd (List.getElem?_eq_some_iff.mp k4).1 (by omega)
    have right : ∀ hr : 2 * y.p + 2 < y.ys.length, lo y.ys[2 * y.p + 1] y.ys[2 * y.p + 2] = false → SuL lo x s vs (y.ys.set y.p y.ys[2 * y.p + 2]) (2 * y.p + 2) := fun hr hc => by
      refine hI.step (by omega) (by omega) (List.getElem?_eq_getElem hr) fun e z k1 k2 k3 k4 => ?_
      have ee : e = 2 * y.p + 1 := by omega
      subst ee
      rw [hzl] at k4
      cases k4
      exact hc
    let D : (Str → Option Value) × Nat × Tok × Value → Prop := fun q => q.1 "heap" = some (.ref H) ∧ q.1 "startpos" = some (.int s ts) ∧ q.1 "pos" = some (.int y.p y.tp) ∧ q.1 "newitem" = some x ∧ q.1 "endpos" = some (.int vs.length te) ∧
      q.1 "childpos" = some (.int q.2.1 q.2.2.1) ∧ y.ys[q.2.1]? = some q.2.2.2 ∧ y.p < q.2.1 ∧ SuL lo x s vs (y.ys.set y.p q.2.2.2) q.2.1
    refine ex_ifQ (c := decide (2 * y.p + 2 < y.ys.length) && !(lo y.ys[2 * y.p + 1] (fn .none y.ys (2 * y.p + 2)))) (Q := fun h => ∃ q, D q ∧ Led β (fr L q.1 :: ls H y.ys :: σ) h) ?_ ?_ ?_ ?_
    · refine ts_and ((ts_lt (ev_namei (.head _) (by ktr_rel)) (ev_namei (.head _) (by ktr_rel))).of (by rw [hyl]; simp; omega)) fun hr => ts_not ?_
      have hr : 2 * y.p + 2 < y.ys.length := by simpa using hr
      have hzr : y.ys[2 * y.p + 2]? = some y.ys[2 * y.p + 2] := List.getElem?_eq_getElem hr
      rw [fn_get hzr]
      refine ts_cmp (V1 := (· = y.ys[2 * y.p + 1])) (V2 := (· = y.ys[2 * y.p + 2])) ?_ ?_ fun a b e e' => by subst e e'; exact cmp _ _ _ _ _ (.refl _) hR'.units (hS _ (hI.mem _ (List.getElem_mem _))) (hS _ (hI.mem _ (List.getElem_mem _)))
      · exact ev_item (k := (2 * y.p + 1 : Nat)) (ev_name (.head _) (by ktr_rel)) (ev_namei (.head _) (by ktr_rel)) (.inl (.tail _ (.head _))) (by omega) (by rw [Int.toNat_natCast]; exact List.getElem?_eq_getElem _)
      · exact ev_item (k := (2 * y.p + 2 : Nat)) (ev_name (.head _) (by ktr_rel)) (ev_namei (.head _) (by ktr_rel)) (.inl (.tail _ (.head _))) (by omega) (by rw [Int.toNat_natCast]; exact List.getElem?_eq_getElem _)
    · intro hc
      simp only [Bool.and_eq_true, decide_eq_true_eq, Bool.not_eq_true'] at hc
      obtain ⟨hr, hc⟩ := hc
      have hzr : y.ys[2 * y.p + 2]? = some y.ys[2 * y.p + 2] := List.getElem?_eq_getElem hr
      rw [fn_get hzr] at hc
      refine ex_setv (v := .int (2 * y.p + 2 : Nat) t1) ?_ ?_
      · exact ev_name (.head _) (by ktr_rel)
      refine ex_nil fun g l => ⟨rfl, (_, 2 * y.p + 2, t1, y.ys[2 * y.p + 2]), ?_, l⟩
      exact ⟨by ktr_rel, by ktr_rel, by ktr_rel, by ktr_rel, by ktr_rel, by ktr_rel, hzr, by show y.p < 2 * y.p + 2; omega, right hr hc⟩
    · intro hc
      refine ex_nil fun g l => ⟨rfl, (_, 2 * y.p + 1, y.tc, y.ys[2 * y.p + 1]), ?_, l⟩
      refine ⟨by ktr_rel, by ktr_rel, by ktr_rel, by ktr_rel, by ktr_rel, by ktr_rel, hzl, by show y.p < 2 * y.p + 1; omega, left ?_⟩
      by_cases hr : 2 * y.p + 2 < y.ys.length
      · left; simpa [hr] using hc
      · right; omega
    · refine ex_ex fun q => ex_and fun hD => ?_
      obtain ⟨m', c, tc', z⟩ := q
      obtain ⟨d1, d2, d3, d4, d5, d6, hz, hpc, hnew⟩ := hD
      dsimp only at d1 d2 d3 d4 d5 d6 hz hpc hnew ⊢
      have hcl : c < y.ys.length := (List.getElem?_eq_some_iff.mp hz).1
      refine ex_setitemv (a := H) (k := y.p) (xs := y.ys) (v := z) ?_ ?_ ?_ (.tail .head) (by omega) (by omega) ?_
      · exact ev_item (k := c) (ev_name (.head _) d1) (ev_namei (.head _) d6) (.inl (.tail _ (.head _))) (by omega) (by simpa using hz)
      · exact ev_name (.head _) d1
      · exact ev_namei (.head _) d3
      refine ex_setv (v := .int c tc') ?_ ?_
      · exact ev_name (.head _) d6
      refine ex_seti (i := (2 * c + 1 : Nat)) ?_ fun t2 => ?_
      · exact (ev_add (ev_mul ev_int (ev_namei (.head _) (by ktr_rel)) (.of_left (by decide))) ev_int).mono fun v q => q.of (by omega)
      refine ex_nil fun g l => ?_
      refine ⟨⟨_, y.ys.set y.p z, c, tc', t2⟩, by show vs.length - c < vs.length - y.p; omega, ?_, l⟩
      exact ⟨hnew, by ktr_rel, by ktr_rel, by ktr_rel, by ktr_rel, by ktr_rel, by ktr_rel⟩
  · refine ex_ex fun y => ex_and fun c => ?_
    obtain ⟨⟨hI, c1, c2, c3, c4, c5, c6⟩, hd⟩ := c
    have hyl := hI.len
    have hyp : y.p < y.ys.length := by rw [hyl]; exact hI.inv.lt
    refine ex_setitemv (a := H) (k := y.p) (xs := y.ys) (v := x) ?_ ?_ ?_ (.tail .head) (by omega) (by omega) ?_
    · exact ev_name (.head _) (by ktr_rel)
    · exact ev_name (.head _) (by ktr_rel)
    · exact ev_namei (.head _) (by ktr_rel)
    rw [Int.toNat_natCast]
    have hset : (y.ys.set y.p x)[y.p]? = some x := by rw [List.getElem?_set_self hyp]
    have hmem : ∀ z ∈ y.ys.set y.p x, S z := fun z hz => hS z (hI.perm.mem_iff.mp hz)
    have hinv : SdI lo x s (y.ys.set y.p x).length (fn .none (y.ys.set y.p x)) y.p := by
      rw [List.length_set, fn_set hyp, hyl]; exact hI.inv.stop hd
    obtain ⟨_, _, hfs⟩ := W.f7
    refine ex_expr (Q := fun h => ∃ ys, (ys.Perm (y.ys.set y.p x) ∧ HpL lo s ys) ∧ Led β (fr L y.m :: ls H ys :: σ) h) ?_ ?_
    · refine tr_fn3 (ev_gl W.g7) hfs (V1 := (· = .ref H)) (V2 := IsI s) (V3 := IsI y.p) ?_ ?_ ?_ ?_
      · exact ev_name (.head _) (by ktr_rel)
      · exact ev_namei (.head _) (by ktr_rel)
      · exact ev_namei (.head _) (by ktr_rel)
      rintro _ v2 v3 rfl e2 e3
      refine Tr.pre (Tr.mono (sd_ok (σ := fr L y.m :: σ) W hR' O cmp hmem hset hinv e2 e3) ?_) fun h l => led_swap l
      rintro r h ⟨rfl, ys, hF, l⟩
      exact ⟨rfl, ys, hF, led_swap l⟩
    · refine ex_nil ?_
      rintro g ⟨ys, ⟨hp, hh⟩, l⟩
      exact ⟨rfl, ys, ⟨hp.trans hI.perm, hh⟩, l.tail⟩

/-! #### the greatest first -/
theorem sd_bodyX {L H : Addr} {pm cd : Value} {vs : List Value} {s p : Nat} {ts tp : Tok} {x : Value} {lo : Value → Value → Bool} (hR : Rm 0 A)
    (I : List Value → Nat → Prop) (Fin : List Value → Prop) {S : Value → Prop} (cmp : CmpOk prog w β (fun a b => lo b a) S) (hx : vs[p]? = some x) (hSx : S x) (h0 : I vs p)
    (hlen : ∀ ys p, I ys p → p < ys.length ∧ ∀ y ∈ ys, S y)
    (hstep : ∀ (ys : List Value) (p : Nat) (y : Value), I ys p → s < p → ys[(p - 1) / 2]? = some y → lo x y = true → I (ys.set p y) ((p - 1) / 2))
    (hstop : ∀ (ys : List Value) (p : Nat), I ys p → (¬ s < p ∨ ∃ y, ys[(p - 1) / 2]? = some y ∧ lo x y = false) → Fin (ys.set p x)) {m : Str → Option Value}
    (m1 : m "heap" = some (.ref H)) (m2 : m "startpos" = some (.int s ts)) (m3 : m "pos" = some (.int p tp)) :
    Ex prog w A (callEnv (fdOf 9 pm cd) L 77) (bodyOf 9) (Led β (fr L m :: ls H vs :: σ)) (fun f h => f = .next ∧ ∃ m ys, Fin ys ∧ Led β (fr L m :: ls H ys :: σ) h) := by
  refine ex_setv (v := x) ?_ ?_
  · exact ev_item (k := p) (ev_name (.head _) m1) (ev_namei (.head _) m3) (.inl (.tail _ (.head _))) (by omega) (by simpa using hx)
  let C : SdSt → Prop := fun y => I y.ys y.p ∧ y.m "heap" = some (.ref H) ∧ y.m "startpos" = some (.int s ts) ∧ y.m "pos" = some (.int y.p y.tp) ∧ y.m "newitem" = some x
  refine Ex.pre (ex_while (ι := SdSt) (fun y h => C y ∧ Led β (fr L y.m :: ls H y.ys :: σ) h) (fun y => y.p) (B := fun y h => (C y ∧ s < y.p) ∧ Led β (fr L y.m :: ls H y.ys :: σ) h)
    (D := fun h => ∃ y : SdSt, (C y ∧ (¬ s < y.p ∨ ∃ z, y.ys[(y.p - 1) / 2]? = some z ∧ lo x z = false)) ∧ Led β (fr L y.m :: ls H y.ys :: σ) h) ?_ ?_ ?_ ⟨upd m "newitem" x, vs, p, tp⟩) fun g l => ⟨⟨h0, by ktr_rel, by ktr_rel, by ktr_rel, by ktr_rel⟩, l⟩
  · intro y
    refine Tr.and fun c => ?_
    obtain ⟨hI, c1, c2, c3, c4⟩ := c
    refine Tr.mono (ts_gt (ev_namei (.head _) c3) (ev_namei (.head _) c2)) fun b h q => ?_
    obtain ⟨rfl, q⟩ := q
    by_cases hlt : s < y.p
    · rw [if_pos (by simpa using hlt)]; exact ⟨⟨⟨hI, c1, c2, c3, c4⟩, hlt⟩, q⟩
    · rw [if_neg (by simpa using hlt)]; exact ⟨y, ⟨⟨hI, c1, c2, c3, c4⟩, .inl hlt⟩, q⟩
  · intro y
    refine ex_and fun c => ?_
    obtain ⟨⟨hI, c1, c2, c3, c4⟩, hlt⟩ := c
    obtain ⟨hl, hS⟩ := hlen _ _ hI
    refine ex_seti (i := ((y.p - 1) / 2 : Nat)) ?_ fun t1 => ?_
    · exact (ev_shr (ev_sub (ev_namei (.head _) c3) ev_int) ev_int (by decide)).mono fun v q => q.of (fdiv2 _ (by omega))
    have hq : (y.p - 1) / 2 < y.ys.length := by omega
    refine ex_setv (v := y.ys[(y.p - 1) / 2]) ?_ ?_
    · exact ev_item (k := ((y.p - 1) / 2 : Nat)) (ev_name (.head _) (by ktr_rel)) (ev_namei (.head _) (by ktr_rel)) (.inl (.tail _ (.head _))) (by omega) (by rw [Int.toNat_natCast]; exact List.getElem?_eq_getElem hq)
    have hz : y.ys[(y.p - 1) / 2]? = some y.ys[(y.p - 1) / 2] := by simp [hq]
    refine ex_if (c := lo x y.ys[(y.p - 1) / 2]) ?_ ?_ ?_
    · exact ts_cmp (ev_name (.head _) (by ktr_rel)) (ev_name (.head _) (by ktr_rel)) fun a b e e' => by subst e e'; exact cmp _ _ _ _ _ (.refl _) hR.units (hS _ (List.getElem_mem hq)) hSx
    · intro hc
      refine ex_setitemv (a := H) (k := y.p) (xs := y.ys) (v := y.ys[(y.p - 1) / 2]) ?_ ?_ ?_ (.tail .head) (by omega) (by omega) ?_
      · exact ev_name (.head _) (by ktr_rel)
      · exact ev_name (.head _) (by ktr_rel)
      · exact ev_namei (.head _) (by ktr_rel)
      refine ex_setv (v := .int ((y.p - 1) / 2 : Nat) t1) ?_ ?_
      · exact ev_name (.head _) (by ktr_rel)
      refine ex_cont fun g l => ?_
      refine ⟨⟨_, y.ys.set y.p y.ys[(y.p - 1) / 2], (y.p - 1) / 2, t1⟩, by show (y.p - 1) / 2 < y.p; omega, ?_, l⟩
      exact ⟨hstep _ _ _ hI hlt hz hc, by ktr_rel, by ktr_rel, by ktr_rel, by ktr_rel⟩
    · intro hc
      refine ex_end (ex_brk fun g l => ?_)
      refine ⟨⟨_, y.ys, y.p, y.tp⟩, ?_, l⟩
      exact ⟨⟨hI, by ktr_rel, by ktr_rel, by ktr_rel, by ktr_rel⟩, .inr ⟨_, hz, hc⟩⟩
  · refine ex_ex fun y => ex_and fun c => ?_
    obtain ⟨⟨hI, c1, c2, c3, c4⟩, hd⟩ := c
    obtain ⟨hl, hS⟩ := hlen _ _ hI
    refine ex_setitemv (a := H) (k := y.p) (xs := y.ys) (v := x) ?_ ?_ ?_ (.tail .head) (by omega) (by omega) ?_
    · exact ev_name (.head _) (by ktr_rel)
    · exact ev_name (.head _) (by ktr_rel)
    · exact ev_namei (.head _) (by ktr_rel)
    exact ex_nil fun g l => ⟨rfl, _, _, hstop _ _ hI hd, l⟩

theorem sd_okX {H : Addr} {vs : List Value} {s p : Nat} {vS vP x : Value} {lo : Value → Value → Bool} (W : Wd β) (hR : Rm 1 A) (O : Ord lo) {S : Value → Prop} (cmp : CmpOk prog w β (fun a b => lo b a) S) (hS : ∀ y ∈ vs, S y)
    (hx : vs[p]? = some x) (h0 : SdI lo x s vs.length (fn .none vs) p) (eS : IsI s vS) (eP : IsI p vP) :
    Tr (model prog w) A (call (.ref 77) [.ref H, vS, vP]) (Led β (ls H vs :: σ)) (fun r h => r = .none ∧ ∃ ys, (ys.Perm vs ∧ HpL lo s ys) ∧ Led β (ls H ys :: σ) h) := by
  obtain ⟨ts, rfl⟩ := eS
  obtain ⟨tp, rfl⟩ := eP
  refine tr_fun (binds := [(("heap" : Str), .ref H), (("startpos" : Str), .int s ts), (("pos" : Str), .int p tp)]) W.f9 W.nolim hR (fun _ _ => rfl) (fun _ _ => rfl) (by decide +kernel) (by rfl) fun L pm cd A' hR' => ?_
  have hp : p < vs.length := h0.lt
  have hxm : x ∈ vs := List.mem_of_getElem? hx
  refine Ex.mono (sd_bodyX (s := s) (p := p) (ts := ts) (tp := tp) (x := x) (lo := lo) hR' (SdL lo x s vs) (fun ys => ys.Perm vs ∧ HpL lo s ys) cmp hx (hS x hxm) ⟨rfl, fun _ h => h, h0, by rw [perm_set_self hx]⟩ ?_ ?_ ?_ rfl rfl rfl) ?_
  · exact fun ys p h => ⟨by rw [h.len]; exact h.inv.lt, fun y hy => hS y (h.mem y hy)⟩
  · exact fun ys p y h hlt hy hl => h.step O hlt hy hl
  · exact fun ys p h hd => h.stop hd
  · rintro f h ⟨rfl, m, ys, hF, l⟩
    exact ⟨rfl, ys, hF, l.tail⟩

/-! siftup -/
structure SuStX where
  m : Str → Option Value
  ys : List Value
  p : Nat
  tp : Tok
  tc : Tok

theorem su_okX {H : Addr} {vs : List Value} {s : Nat} {vP : Value} {lo : Value → Value → Bool} (W : Wd β) (hR : Rm 2 A) (O : Ord lo) {S : Value → Prop} (cmp : CmpOk prog w β (fun a b => lo b a) S) (hS : ∀ y ∈ vs, S y)
    (hs : s < vs.length) (h0 : HpL lo (s + 1) vs) (eP : IsI s vP) (hlen : vs.length ≤ 1000) :
    Tr (model prog w) A (call (.ref 84) [.ref H, vP]) (Led β (ls H vs :: σ)) (fun r h => r = .none ∧ ∃ ys, (ys.Perm vs ∧ HpL lo s ys) ∧ Led β (ls H ys :: σ) h) := by
  obtain ⟨ts, rfl⟩ := eP
  refine tr_fun (binds := [(("heap" : Str), .ref H), (("pos" : Str), .int s ts)]) W.f10 W.nolim hR (fun _ _ => rfl) (fun _ _ => rfl) (by decide +kernel) (by rfl) fun L pm cd A' hR' => ?_
  have m1 : (fun x => ([(("heap" : Str), Value.ref H), (("pos" : Str), Value.int s ts)] : List (Str × Value)).reverse.lookup x) "heap" = some (.ref H) := rfl
  have m2 : (fun x => ([(("heap" : Str), Value.ref H), (("pos" : Str), Value.int s ts)] : List (Str × Value)).reverse.lookup x) "pos" = some (.int s ts) := rfl
  generalize (fun x => ([(("heap" : Str), Value.ref H), (("pos" : Str), Value.int s ts)] : List (Str × Value)).reverse.lookup x) = m at m1 m2
  obtain ⟨x, hx⟩ : ∃ x, vs[s]? = some x := ⟨_, List.getElem?_eq_getElem hs⟩
  refine ex_seti (i := vs.length) ?_ fun te => ?_
  · exact ev_len (ev_bl W.bLen) (ev_name (.head _) m1) (.inl (.tail _ (.head _)))
  refine ex_setv (v := .int s ts) ?_ ?_
  · exact ev_name (.head _) (by ktr_rel)
  refine ex_setv (v := x) ?_ ?_
  · exact ev_item (k := s) (ev_name (.head _) (by ktr_rel)) (ev_namei (.head _) (by ktr_rel)) (.inl (.tail _ (.head _))) (by omega) (by simpa using hx)
  refine ex_seti (i := (2 * s + 1 : Nat)) ?_ fun tc => ?_
  · exact (ev_add (ev_mul ev_int (ev_namei (.head _) (by ktr_rel)) (.of_left (by decide))) ev_int).mono fun v q => q.of (by omega)
  let C : SuStX → Prop := fun y => SuL lo x s vs y.ys y.p ∧ y.m "heap" = some (.ref H) ∧ y.m "startpos" = some (.int s ts) ∧ y.m "pos" = some (.int y.p y.tp) ∧ y.m "newitem" = some x ∧ y.m "endpos" = some (.int vs.length te) ∧
    y.m "childpos" = some (.int (2 * y.p + 1 : Nat) y.tc)
  refine Ex.pre (ex_while (ι := SuStX) (fun y h => C y ∧ Led β (fr L y.m :: ls H y.ys :: σ) h) (fun y => vs.length - y.p) (B := fun y h => (C y ∧ 2 * y.p + 1 < vs.length) ∧ Led β (fr L y.m :: ls H y.ys :: σ) h)
    (D := fun h => ∃ y : SuStX, (C y ∧ vs.length ≤ 2 * y.p + 1) ∧ Led β (fr L y.m :: ls H y.ys :: σ) h) ?_ ?_ ?_ ⟨_, vs, s, ts, tc⟩) fun g l => ⟨⟨⟨rfl, fun _ h => h, .start hs h0, by rw [perm_set_self hx]⟩, by ktr_rel, by ktr_rel, by ktr_rel, by ktr_rel, by ktr_rel, by ktr_rel⟩, l⟩
  · intro y
    refine Tr.and fun c => ?_
    obtain ⟨hI, c1, c2, c3, c4, c5, c6⟩ := id c
    refine Tr.mono (ts_lt (ev_namei (.head _) c6) (ev_namei (.head _) c5)) fun b h q => ?_
    obtain ⟨rfl, q⟩ := q
    by_cases hlt : 2 * y.p + 1 < vs.length
    · rw [if_pos (by simp; omega)]; exact ⟨⟨c, hlt⟩, q⟩
    · rw [if_neg (by simp; omega)]; exact ⟨y, ⟨c, by omega⟩, q⟩
  · intro y
    refine ex_and fun c => ?_
    obtain ⟨⟨hI, c1, c2, c3, c4, c5, c6⟩, hlt⟩ := c
    have hyl := hI.len
    have hyp : y.p < y.ys.length := by omega
    refine ex_seti (i := (2 * y.p + 2 : Nat)) ?_ fun t1 => ?_
    · exact (ev_add (ev_namei (.head _) c6) ev_int).mono fun v q => q.of (by omega)
    have hl : 2 * y.p + 1 < y.ys.length := by omega
    have hzl : y.ys[2 * y.p + 1]? = some y.ys[2 * y.p + 1] := List.getElem?_eq_getElem hl
    have left : lo y.ys[2 * y.p + 1] (fn .none y.ys (2 * y.p + 2)) = true ∨ y.ys.length ≤ 2 * y.p + 2 → SuL lo x s vs (y.ys.set y.p y.ys[2 * y.p + 1]) (2 * y.p + 1) := fun hh => by
      refine hI.step (by omega) (by omega) hzl fun e z k1 k2 k3 k4 => ?_
      have ee : e = 2 * y.p + 2 := by omega
      subst ee
      rcases hh with hh | hh
      · rw [fn_get k4] at hh; exact O.as _ _ hh
      · exact absurd (List.getElem?_eq_some_iff.mp k4).1 (by omega)
    have right : ∀ hr : 2 * y.p + 2 < y.ys.length, lo y.ys[2 * y.p + 1] y.ys[2 * y.p + 2] = false → SuL lo x s vs (y.ys.set y.p y.ys[2 * y.p + 2]) (2 * y.p + 2) := fun hr hc => by
      refine hI.step (by omega) (by omega) (List.getElem?_eq_getElem hr) fun e z k1 k2 k3 k4 => ?_
      have ee : e = 2 * y.p + 1 := by omega
      subst ee
      rw [hzl] at k4
      cases k4
      exact hc
    let D : (Str → Option Value) × Nat × Tok × Value → Prop := fun q => q.1 "heap" = some (.ref H) ∧ q.1 "startpos" = some (.int s ts) ∧ q.1 "pos" = some (.int y.p y.tp) ∧ q.1 "newitem" = some x ∧ q.1 "endpos" = some (.int vs.length te) ∧
      q.1 "childpos" = some (.int q.2.1 q.2.2.1) ∧ y.ys[q.2.1]? = some q.2.2.2 ∧ y.p < q.2.1 ∧ SuL lo x s vs (y.ys.set y.p q.2.2.2) q.2.1
    refine ex_ifQ (c := decide (2 * y.p + 2 < y.ys.length) && !(lo y.ys[2 * y.p + 1] (fn .none y.ys (2 * y.p + 2)))) (Q := fun h => ∃ q, D q ∧ Led β (fr L q.1 :: ls H y.ys :: σ) h) ?_ ?_ ?_ ?_
    · refine ts_and ((ts_lt (ev_namei (.head _) (by ktr_rel)) (ev_namei (.head _) (by ktr_rel))).of (by rw [hyl]; simp; omega)) fun hr => ts_not ?_
      have hr : 2 * y.p + 2 < y.ys.length := by simpa using hr
      have hzr : y.ys[2 * y.p + 2]? = some y.ys[2 * y.p + 2] := List.getElem?_eq_getElem hr
      rw [fn_get hzr]
      refine ts_cmp (V1 := (· = y.ys[2 * y.p + 2])) (V2 := (· = y.ys[2 * y.p + 1])) ?_ ?_ fun a b e e' => by subst e e'; exact cmp _ _ _ _ _ (.refl _) hR'.units (hS _ (hI.mem _ (List.getElem_mem _))) (hS _ (hI.mem _ (List.getElem_mem _)))
      · exact ev_item (k := (2 * y.p + 2 : Nat)) (ev_name (.head _) (by ktr_rel)) (ev_namei (.head _) (by ktr_rel)) (.inl (.tail _ (.head _))) (by omega) (by rw [Int.toNat_natCast]; exact List.getElem?_eq_getElem _)
      · exact ev_item (k := (2 * y.p + 1 : Nat)) (ev_name (.head _) (by ktr_rel)) (ev_namei (.head _) (by ktr_rel)) (.inl (.tail _ (.head _))) (by omega) (by rw [Int.toNat_natCast]; exact List.getElem?_eq_getElem _)
    · intro hc
      simp only [Bool.and_eq_true, decide_eq_true_eq, Bool.not_eq_true'] at hc
      obtain ⟨hr, hc⟩ := hc
      have hzr : y.ys[2 * y.p + 2]? = some y.ys[2 * y.p + 2] := List.getElem?_eq_getElem hr
      rw [fn_get hzr] at hc
      refine ex_setv (v := .int (2 * y.p + 2 : Nat) t1) ?_ ?_
      · exact ev_name (.head _) (by ktr_rel)
      refine ex_nil fun g l => ⟨rfl, (_, 2 * y.p + 2, t1, y.ys[2 * y.p + 2]), ?_, l⟩
      exact ⟨by ktr_rel, by ktr_rel, by ktr_rel, by ktr_rel, by ktr_rel, by ktr_rel, hzr, by show y.p < 2 * y.p + 2; omega, right hr hc⟩
    · intro hc
      refine ex_nil fun g l => ⟨rfl, (_, 2 * y.p + 1, y.tc, y.ys[2 * y.p + 1]), ?_, l⟩
      refine ⟨by ktr_rel, by ktr_rel, by ktr_rel, by ktr_rel, by ktr_rel, by ktr_rel, hzl, by show y.p < 2 * y.p + 1; omega, left ?_⟩
      by_cases hr : 2 * y.p + 2 < y.ys.length
      · left; simpa [hr] using hc
      · right; omega
    · refine ex_ex fun q => ex_and fun hD => ?_
      obtain ⟨m', c, tc', z⟩ := q
      obtain ⟨d1, d2, d3, d4, d5, d6, hz, hpc, hnew⟩ := hD
      dsimp only at d1 d2 d3 d4 d5 d6 hz hpc hnew ⊢
      have hcl : c < y.ys.length := (List.getElem?_eq_some_iff.mp hz).1
      refine ex_setitemv (a := H) (k := y.p) (xs := y.ys) (v := z) ?_ ?_ ?_ (.tail .head) (by omega) (by omega) ?_
      · exact ev_item (k := c) (ev_name (.head _) d1) (ev_namei (.head _) d6) (.inl (.tail _ (.head _))) (by omega) (by simpa using hz)
      · exact ev_name (.head _) d1
      · exact ev_namei (.head _) d3
      refine ex_setv (v := .int c tc') ?_ ?_
      · exact ev_name (.head _) d6
      refine ex_seti (i := (2 * c + 1 : Nat)) ?_ fun t2 => ?_
      · exact (ev_add (ev_mul ev_int (ev_namei (.head _) (by ktr_rel)) (.of_left (by decide))) ev_int).mono fun v q => q.of (by omega)
      refine ex_nil fun g l => ?_
      refine ⟨⟨_, y.ys.set y.p z, c, tc', t2⟩, by show vs.length - c < vs.length - y.p; omega, ?_, l⟩
      exact ⟨hnew, by ktr_rel, by ktr_rel, by ktr_rel, by ktr_rel, by ktr_rel, by ktr_rel⟩
  · refine ex_ex fun y => ex_and fun c => ?_
    obtain ⟨⟨hI, c1, c2, c3, c4, c5, c6⟩, hd⟩ := c
    have hyl := hI.len
    have hyp : y.p < y.ys.length := by rw [hyl]; exact hI.inv.lt
    refine ex_setitemv (a := H) (k := y.p) (xs := y.ys) (v := x) ?_ ?_ ?_ (.tail .head) (by omega) (by omega) ?_
    · exact ev_name (.head _) (by ktr_rel)
    · exact ev_name (.head _) (by ktr_rel)
    · exact ev_namei (.head _) (by ktr_rel)
    rw [Int.toNat_natCast]
    have hset : (y.ys.set y.p x)[y.p]? = some x := by rw [List.getElem?_set_self hyp]
    have hmem : ∀ z ∈ y.ys.set y.p x, S z := fun z hz => hS z (hI.perm.mem_iff.mp hz)
    have hinv : SdI lo x s (y.ys.set y.p x).length (fn .none (y.ys.set y.p x)) y.p := by
      rw [List.length_set, fn_set hyp, hyl]; exact hI.inv.stop hd
    obtain ⟨_, _, hfs⟩ := W.f9
    refine ex_expr (Q := fun h => ∃ ys, (ys.Perm (y.ys.set y.p x) ∧ HpL lo s ys) ∧ Led β (fr L y.m :: ls H ys :: σ) h) ?_ ?_
    · refine tr_fn3 (ev_gl W.g9) hfs (V1 := (· = .ref H)) (V2 := IsI s) (V3 := IsI y.p) ?_ ?_ ?_ ?_
      · exact ev_name (.head _) (by ktr_rel)
      · exact ev_namei (.head _) (by ktr_rel)
      · exact ev_namei (.head _) (by ktr_rel)
      rintro _ v2 v3 rfl e2 e3
      refine Tr.pre (Tr.mono (sd_okX (σ := fr L y.m :: σ) W hR' O cmp hmem hset hinv e2 e3) ?_) fun h l => led_swap l
      rintro r h ⟨rfl, ys, hF, l⟩
      exact ⟨rfl, ys, hF, led_swap l⟩
    · refine ex_nil ?_
      rintro g ⟨ys, ⟨hp, hh⟩, l⟩
      exact ⟨rfl, ys, ⟨hp.trans hI.perm, hh⟩, l.tail⟩

end


theorem hpl_set0 {lo : Value → Value → Bool} {xs : List Value} {v : Value} (h : HpL lo 0 xs) : HpL lo 1 (xs.set 0 v) := by
  intro i i1 i2 i3
  rw [List.length_set] at i2
  rw [fn_set (by omega), up_ne (by omega), up_ne (by omega)]
  exact h i i1 i2 (by omega)
theorem fn_app {xs zs : List Value} {i : Nat} (h : i < xs.length) : fn .none (xs ++ zs) i = fn .none xs i := by
  unfold fn
  simp only [List.getD_eq_getElem?_getD]
  rw [List.getElem?_append_left h]
theorem hpl_front {lo : Value → Value → Bool} {s : Nat} {xs zs : List Value} (h : HpL lo s (xs ++ zs)) : HpL lo s xs := by
  intro i i1 i2 i3
  have := h i i1 (by rw [List.length_append]; omega) i3
  rw [fn_app i2, fn_app (by omega)] at this
  exact this
theorem hpl_half {lo : Value → Value → Bool} {xs : List Value} : HpL lo (xs.length / 2) xs := by
  intro i i1 i2 i3
  omega
theorem hpl_nil {lo : Value → Value → Bool} : HpL lo 0 [] := by
  intro i i1 i2 i3
  exact absurd i2 (by simp)

structure HfSt where
  b : Base
  m : Str → Option Value
  ys : List Value

section
variable {prog : Program} {w : World} {A : Around} {β : Base} {σ : List It}

theorem hpop_ok {H : Addr} {vs : List Value} {v0 : Value} {lo : Value → Value → Bool} (W : Wd β) (hR : Rm 3 A) (O : Ord lo) {S : Value → Prop} (cmp : CmpOk prog w β lo S) (hS : ∀ y ∈ vs, S y)
    (h0 : vs[0]? = some v0) (hh : HpL lo 0 vs) (hlen : vs.length ≤ 1000) :
    Tr (model prog w) A (call (.ref 21) [.ref H]) (Led β (ls H vs :: σ)) (fun r h => r = v0 ∧ ∃ ys, ((v0 :: ys).Perm vs ∧ HpL lo 0 ys) ∧ Led β (ls H ys :: σ) h) := by
  refine tr_fun (binds := [(("heap" : Str), .ref H)]) W.f1 W.nolim hR (fun _ _ => rfl) (fun _ _ => rfl) (by decide +kernel) (by rfl) fun L pm cd A' hR' => ?_
  have m1 : (fun x => ([(("heap" : Str), Value.ref H)] : List (Str × Value)).reverse.lookup x) "heap" = some (.ref H) := rfl
  generalize (fun x => ([(("heap" : Str), Value.ref H)] : List (Str × Value)).reverse.lookup x) = m at m1
  have hne : vs ≠ [] := by rintro rfl; cases h0
  obtain ⟨xs, z, rfl⟩ : ∃ xs z, vs = xs ++ [z] := ⟨vs.dropLast, vs.getLast hne, (List.dropLast_concat_getLast hne).symm⟩
  refine ex_setG (ι := Unit) (C := fun _ v => v = z) (β' := fun _ => β) (σ1 := fun _ => ls H xs :: σ) (Tr.mono (tr_pop (xs := xs) (x := z) (ev_name (.head _) m1) (.tail .head)) fun v h q => ⟨(), q⟩) ?_
  intro _ v hv
  subst hv
  refine ex_if (c := !xs.isEmpty) ?_ ?_ ?_
  · exact ts_list (ev_name (.head _) (by ktr_rel)) (.inl (.tail _ (.head _)))
  · intro hc
    obtain ⟨a, r, rfl⟩ : ∃ a r, xs = a :: r := by cases xs with
      | nil => cases hc
      | cons a r => exact ⟨a, r, rfl⟩
    have e0 : a = v0 := Option.some.inj h0
    subst e0
    refine ex_setv (v := a) ?_ ?_
    · exact ev_item (k := 0) (ev_name (.head _) (by ktr_rel)) ev_int (.inl (.tail _ (.head _))) (by decide) rfl
    refine ex_setitemv (a := H) (k := 0) (xs := a :: r) (v := v) ?_ ?_ ?_ (.tail .head) (by decide) (by simp) ?_
    · exact ev_name (.head _) (by ktr_rel)
    · exact ev_name (.head _) (by ktr_rel)
    · exact ev_int
    have e : (a :: r).set (0 : Int).toNat v = v :: r := rfl
    rw [e]
    have hlen' : (v :: r).length ≤ 1000 := by simp at hlen ⊢; omega
    obtain ⟨_, _, hfs⟩ := W.f8
    refine ex_expr (Q := fun h => ∃ ys, (ys.Perm (v :: r) ∧ HpL lo 0 ys) ∧ Led β (fr L (upd (upd m "lastelt" v) "returnitem" a) :: ls H ys :: σ) h) ?_ ?_
    · refine tr_fn2 (ev_gl W.g8) hfs (V1 := (· = .ref H)) (V2 := IsI 0) ?_ ?_ ?_
      · exact ev_name (.head _) (by ktr_rel)
      · exact ev_int
      rintro _ v2 rfl e2
      refine Tr.pre (Tr.mono (su_ok (σ := fr L (upd (upd m "lastelt" v) "returnitem" a) :: σ) (s := 0) (vs := v :: r) W hR' O cmp ?_ (by simp) ?_ e2 hlen') ?_) fun h l => led_swap l
      · intro y hy
        rcases List.mem_cons.mp hy with rfl | hy
        · exact hS _ (by simp)
        · exact hS _ (by simp [hy])
      · exact hpl_set0 (xs := a :: r) (hpl_front hh)
      · rintro r h ⟨rfl, ys, hF, l⟩
        exact ⟨rfl, ys, hF, led_swap l⟩
    · refine ex_ex fun ys => ex_and fun hF => ?_
      refine ex_ret (Tr.mono (ev_name (v := a) (.head _) (by ktr_rel)) ?_)
      rintro _ h ⟨e, l⟩
      refine ⟨e, ys, ⟨?_, hF.2⟩, l.tail⟩
      refine (List.Perm.cons a hF.1).trans (List.Perm.cons a ?_)
      exact (List.perm_append_comm (l₁ := [v]) (l₂ := r))
  · intro hc
    have hx : xs = [] := by cases xs with
      | nil => rfl
      | cons a r => cases hc
    subst hx
    have e0 : v = v0 := Option.some.inj h0
    subst e0
    refine ex_end (ex_ret (Tr.mono (ev_name (v := v) (.head _) (by ktr_rel)) ?_))
    rintro _ h ⟨e, l⟩
    exact ⟨e, [], ⟨List.Perm.refl _, hpl_nil⟩, l.tail⟩

theorem hrep_ok {H : Addr} {vs : List Value} {v0 item : Value} {r : List Value} {lo : Value → Value → Bool} (W : Wd β) (hR : Rm 3 A) (O : Ord lo) {S : Value → Prop} (cmp : CmpOk prog w β lo S) (hS : ∀ y ∈ vs, S y) (hSi : S item)
    (h0 : vs = v0 :: r) (hh : HpL lo 0 vs) (hlen : vs.length ≤ 1000) :
    Tr (model prog w) A (call (.ref 28) [.ref H, item]) (Led β (ls H vs :: σ)) (fun q h => q = v0 ∧ ∃ ys, (ys.Perm (item :: r) ∧ HpL lo 0 ys) ∧ Led β (ls H ys :: σ) h) := by
  subst h0
  refine tr_fun (binds := [(("heap" : Str), .ref H), (("item" : Str), item)]) W.f2 W.nolim hR (fun _ _ => rfl) (fun _ _ => rfl) (by decide +kernel) (by rfl) fun L pm cd A' hR' => ?_
  have m1 : (fun x => ([(("heap" : Str), Value.ref H), (("item" : Str), item)] : List (Str × Value)).reverse.lookup x) "heap" = some (.ref H) := rfl
  have m2 : (fun x => ([(("heap" : Str), Value.ref H), (("item" : Str), item)] : List (Str × Value)).reverse.lookup x) "item" = some item := rfl
  generalize (fun x => ([(("heap" : Str), Value.ref H), (("item" : Str), item)] : List (Str × Value)).reverse.lookup x) = m at m1 m2
  refine ex_setv (v := v0) ?_ ?_
  · exact ev_item (k := 0) (ev_name (.head _) (by ktr_rel)) ev_int (.inl (.tail _ (.head _))) (by decide) rfl
  refine ex_setitemv (a := H) (k := 0) (xs := v0 :: r) (v := item) ?_ ?_ ?_ (.tail .head) (by decide) (by simp) ?_
  · exact ev_name (.head _) (by ktr_rel)
  · exact ev_name (.head _) (by ktr_rel)
  · exact ev_int
  have e : (v0 :: r).set (0 : Int).toNat item = item :: r := rfl
  rw [e]
  obtain ⟨_, _, hfs⟩ := W.f8
  refine ex_expr (Q := fun h => ∃ ys, (ys.Perm (item :: r) ∧ HpL lo 0 ys) ∧ Led β (fr L (upd m "returnitem" v0) :: ls H ys :: σ) h) ?_ ?_
  · refine tr_fn2 (ev_gl W.g8) hfs (V1 := (· = .ref H)) (V2 := IsI 0) ?_ ?_ ?_
    · exact ev_name (.head _) (by ktr_rel)
    · exact ev_int
    rintro _ v2 rfl e2
    refine Tr.pre (Tr.mono (su_ok (σ := fr L (upd m "returnitem" v0) :: σ) (s := 0) (vs := item :: r) W hR' O cmp ?_ (by simp) ?_ e2 hlen) ?_) fun h l => led_swap l
    · intro y hy
      rcases List.mem_cons.mp hy with rfl | hy
      · exact hSi
      · exact hS _ (by simp [hy])
    · exact hpl_set0 (xs := v0 :: r) hh
    · rintro r h ⟨rfl, ys, hF, l⟩
      exact ⟨rfl, ys, hF, led_swap l⟩
  · refine ex_ex fun ys => ex_and fun hF => ?_
    refine ex_ret (Tr.mono (ev_name (v := v0) (.head _) (by ktr_rel)) ?_)
    rintro _ h ⟨e, l⟩
    exact ⟨e, ys, hF, l.tail⟩

theorem hfy_ok {H : Addr} {vs : List Value} {lo : Value → Value → Bool} (W : Wd β) (hR : Rm 3 A) (O : Ord lo) {S : Value → Prop} (cmp : CmpOk prog w β lo S) (hS : ∀ y ∈ vs, S y) (hlen : vs.length ≤ 1000) :
    Tr (model prog w) A (call (.ref 35) [.ref H]) (Led β (ls H vs :: σ)) (fun q h => q = .none ∧ ∃ ys, (ys.Perm vs ∧ HpL lo 0 ys) ∧ Led β (ls H ys :: σ) h) := by
  refine tr_fun (binds := [(("x" : Str), .ref H)]) W.f3 W.nolim hR (fun _ _ => rfl) (fun _ _ => rfl) (by decide +kernel) (by rfl) fun L pm cd A' hR' => ?_
  have m1 : (fun x => ([(("x" : Str), Value.ref H)] : List (Str × Value)).reverse.lookup x) "x" = some (.ref H) := rfl
  generalize (fun x => ([(("x" : Str), Value.ref H)] : List (Str × Value)).reverse.lookup x) = m at m1
  refine ex_seti (i := vs.length) ?_ fun tn => ?_
  · exact ev_len (ev_bl W.bLen) (ev_name (.head _) m1) (.inl (.tail _ (.head _)))
  obtain ⟨_, _, hfs⟩ := W.f8
  refine ex_for (ι := HfSt) (n := vs.length / 2) (src_rev hR'.1 (ev_bl W.bReversed) (ev_bl W.bRange) ((ev_div (ev_namei (.head _) upd_self) ev_int (by decide) (PyProof.noPylong_small (by decide))).mono fun v q => q.of ?_) (by omega))
    (fun y => y.b) (fun y => y.m) (fun y => ls H y.ys :: σ) (fun k y => y.m "x" = some (.ref H) ∧ y.ys.Perm vs ∧ HpL lo (vs.length / 2 - k) y.ys) ?_ ?_ ?_
  · rw [Int.fdiv_eq_ediv_of_nonneg _ (by decide)]; norm_cast
  · exact fun β' l => ⟨⟨β', _, vs⟩, rfl, rfl, rfl, by ktr_rel, .refl _, hpl_half⟩
  · intro k y v i hk hv hb hI
    obtain ⟨i1, i2, i3⟩ := hI
    obtain ⟨tv, rfl⟩ := hv
    have hylen : y.ys.length = vs.length := i2.length_eq
    refine ex_expr (Q := fun h => ∃ ys, (ys.Perm y.ys ∧ HpL lo (vs.length / 2 - (k + 1)) ys) ∧ Led y.b (fr L (upd y.m "i" (.int ((vs.length / 2 : Nat) - 1 - k) tv)) :: i :: ls H ys :: σ) h) ?_ ?_
    · refine tr_fn2 (ev_gl (W.le hb).g8) (hfs.le hb) (V1 := (· = .ref H)) (V2 := IsI ((vs.length / 2 : Nat) - 1 - k)) ?_ ?_ ?_
      · exact ev_name (.head _) (by ktr_rel)
      · exact ev_namei (.head _) (by ktr_rel)
      rintro _ v2 rfl e2
      refine Tr.pre (Tr.mono (su_ok (σ := fr L (upd y.m "i" (.int ((vs.length / 2 : Nat) - 1 - k) tv)) :: i :: σ) (s := vs.length / 2 - (k + 1)) (vs := y.ys) (W.le hb) hR' O (cmp.le hb) (fun z hz => hS z (i2.mem_iff.mp hz)) (by omega) ?_ (e2.of (by omega)) (by omega)) ?_) fun h l => l.perm (((List.Perm.swap _ _ _).cons _).trans (.swap _ _ _))
      · rw [show vs.length / 2 - (k + 1) + 1 = vs.length / 2 - k by omega]; exact i3
      · rintro r h ⟨rfl, ys, hF, l⟩
        exact ⟨rfl, ys, hF, l.perm ((List.Perm.swap _ _ _).trans ((List.Perm.swap _ _ _).cons _))⟩
    · refine ex_nil ?_
      rintro g ⟨ys, hF, l⟩
      refine ⟨.inl rfl, ⟨y.b, _, ys⟩, .refl _, ?_, l⟩
      exact ⟨by ktr_rel, hF.1.trans i2, hF.2⟩
  · rintro y hb ⟨i1, i2, i3⟩
    refine ex_nil fun g l => ⟨rfl, y.ys, ⟨i2, ?_⟩, l.tail.weak hb⟩
    rw [Nat.sub_self] at i3; exact i3

theorem hpop_okX {H : Addr} {vs : List Value} {v0 : Value} {lo : Value → Value → Bool} (W : Wd β) (hR : Rm 3 A) (O : Ord lo) {S : Value → Prop} (cmp : CmpOk prog w β (fun a b => lo b a) S) (hS : ∀ y ∈ vs, S y)
    (h0 : vs[0]? = some v0) (hh : HpL lo 0 vs) (hlen : vs.length ≤ 1000) :
    Tr (model prog w) A (call (.ref 42) [.ref H]) (Led β (ls H vs :: σ)) (fun r h => r = v0 ∧ ∃ ys, ((v0 :: ys).Perm vs ∧ HpL lo 0 ys) ∧ Led β (ls H ys :: σ) h) := by
  refine tr_fun (binds := [(("heap" : Str), .ref H)]) W.f4 W.nolim hR (fun _ _ => rfl) (fun _ _ => rfl) (by decide +kernel) (by rfl) fun L pm cd A' hR' => ?_
  have m1 : (fun x => ([(("heap" : Str), Value.ref H)] : List (Str × Value)).reverse.lookup x) "heap" = some (.ref H) := rfl
  generalize (fun x => ([(("heap" : Str), Value.ref H)] : List (Str × Value)).reverse.lookup x) = m at m1
  have hne : vs ≠ [] := by rintro rfl; cases h0
  obtain ⟨xs, z, rfl⟩ : ∃ xs z, vs = xs ++ [z] := ⟨vs.dropLast, vs.getLast hne, (List.dropLast_concat_getLast hne).symm⟩
  refine ex_setG (ι := Unit) (C := fun _ v => v = z) (β' := fun _ => β) (σ1 := fun _ => ls H xs :: σ) (Tr.mono (tr_pop (xs := xs) (x := z) (ev_name (.head _) m1) (.tail .head)) fun v h q => ⟨(), q⟩) ?_
  intro _ v hv
  subst hv
  refine ex_if (c := !xs.isEmpty) ?_ ?_ ?_
  · exact ts_list (ev_name (.head _) (by ktr_rel)) (.inl (.tail _ (.head _)))
  · intro hc
    obtain ⟨a, r, rfl⟩ : ∃ a r, xs = a :: r := by cases xs with
      | nil => cases hc
      | cons a r => exact ⟨a, r, rfl⟩
    have e0 : a = v0 := Option.some.inj h0
    subst e0
    refine ex_setv (v := a) ?_ ?_
    · exact ev_item (k := 0) (ev_name (.head _) (by ktr_rel)) ev_int (.inl (.tail _ (.head _))) (by decide) rfl
    refine ex_setitemv (a := H) (k := 0) (xs := a :: r) (v := v) ?_ ?_ ?_ (.tail .head) (by decide) (by simp) ?_
    · exact ev_name (.head _) (by ktr_rel)
    · exact ev_name (.head _) (by ktr_rel)
    · exact ev_int
    have e : (a :: r).set (0 : Int).toNat v = v :: r := rfl
    rw [e]
    have hlen' : (v :: r).length ≤ 1000 := by simp at hlen ⊢; omega
    obtain ⟨_, _, hfs⟩ := W.f10
    refine ex_expr (Q := fun h => ∃ ys, (ys.Perm (v :: r) ∧ HpL lo 0 ys) ∧ Led β (fr L (upd (upd m "lastelt" v) "returnitem" a) :: ls H ys :: σ) h) ?_ ?_
    · refine tr_fn2 (ev_gl W.g10) hfs (V1 := (· = .ref H)) (V2 := IsI 0) ?_ ?_ ?_
      · exact ev_name (.head _) (by ktr_rel)
      · exact ev_int
      rintro _ v2 rfl e2
      refine Tr.pre (Tr.mono (su_okX (σ := fr L (upd (upd m "lastelt" v) "returnitem" a) :: σ) (s := 0) (vs := v :: r) W hR' O cmp ?_ (by simp) ?_ e2 hlen') ?_) fun h l => led_swap l
      · intro y hy
        rcases List.mem_cons.mp hy with rfl | hy
        · exact hS _ (by simp)
        · exact hS _ (by simp [hy])
      · exact hpl_set0 (xs := a :: r) (hpl_front hh)
      · rintro r h ⟨rfl, ys, hF, l⟩
        exact ⟨rfl, ys, hF, led_swap l⟩
    · refine ex_ex fun ys => ex_and fun hF => ?_
      refine ex_ret (Tr.mono (ev_name (v := a) (.head _) (by ktr_rel)) ?_)
      rintro _ h ⟨e, l⟩
      refine ⟨e, ys, ⟨?_, hF.2⟩, l.tail⟩
      refine (List.Perm.cons a hF.1).trans (List.Perm.cons a ?_)
      exact (List.perm_append_comm (l₁ := [v]) (l₂ := r))
  · intro hc
    have hx : xs = [] := by cases xs with
      | nil => rfl
      | cons a r => cases hc
    subst hx
    have e0 : v = v0 := Option.some.inj h0
    subst e0
    refine ex_end (ex_ret (Tr.mono (ev_name (v := v) (.head _) (by ktr_rel)) ?_))
    rintro _ h ⟨e, l⟩
    exact ⟨e, [], ⟨List.Perm.refl _, hpl_nil⟩, l.tail⟩

theorem hrep_okX {H : Addr} {vs : List Value} {v0 item : Value} {r : List Value} {lo : Value → Value → Bool} (W : Wd β) (hR : Rm 3 A) (O : Ord lo) {S : Value → Prop} (cmp : CmpOk prog w β (fun a b => lo b a) S) (hS : ∀ y ∈ vs, S y) (hSi : S item)
    (h0 : vs = v0 :: r) (hh : HpL lo 0 vs) (hlen : vs.length ≤ 1000) :
    Tr (model prog w) A (call (.ref 49) [.ref H, item]) (Led β (ls H vs :: σ)) (fun q h => q = v0 ∧ ∃ ys, (ys.Perm (item :: r) ∧ HpL lo 0 ys) ∧ Led β (ls H ys :: σ) h) := by
  subst h0
  refine tr_fun (binds := [(("heap" : Str), .ref H), (("item" : Str), item)]) W.f5 W.nolim hR (fun _ _ => rfl) (fun _ _ => rfl) (by decide +kernel) (by rfl) fun L pm cd A' hR' => ?_
  have m1 : (fun x => ([(("heap" : Str), Value.ref H), (("item" : Str), item)] : List (Str × Value)).reverse.lookup x) "heap" = some (.ref H) := rfl
  have m2 : (fun x => ([(("heap" : Str), Value.ref H), (("item" : Str), item)] : List (Str × Value)).reverse.lookup x) "item" = some item := rfl
  generalize (fun x => ([(("heap" : Str), Value.ref H), (("item" : Str), item)] : List (Str × Value)).reverse.lookup x) = m at m1 m2
  refine ex_setv (v := v0) ?_ ?_
  · exact ev_item (k := 0) (ev_name (.head _) (by ktr_rel)) ev_int (.inl (.tail _ (.head _))) (by decide) rfl
  refine ex_setitemv (a := H) (k := 0) (xs := v0 :: r) (v := item) ?_ ?_ ?_ (.tail .head) (by decide) (by simp) ?_
  · exact ev_name (.head _) (by ktr_rel)
  · exact ev_name (.head _) (by ktr_rel)
  · exact ev_int
  have e : (v0 :: r).set (0 : Int).toNat item = item :: r := rfl
  rw [e]
  obtain ⟨_, _, hfs⟩ := W.f10
  refine ex_expr (Q := fun h => ∃ ys, (ys.Perm (item :: r) ∧ HpL lo 0 ys) ∧ Led β (fr L (upd m "returnitem" v0) :: ls H ys :: σ) h) ?_ ?_
  · refine tr_fn2 (ev_gl W.g10) hfs (V1 := (· = .ref H)) (V2 := IsI 0) ?_ ?_ ?_
    · exact ev_name (.head _) (by ktr_rel)
    · exact ev_int
    rintro _ v2 rfl e2
    refine Tr.pre (Tr.mono (su_okX (σ := fr L (upd m "returnitem" v0) :: σ) (s := 0) (vs := item :: r) W hR' O cmp ?_ (by simp) ?_ e2 hlen) ?_) fun h l => led_swap l
    · intro y hy
      rcases List.mem_cons.mp hy with rfl | hy
      · exact hSi
      · exact hS _ (by simp [hy])
    · exact hpl_set0 (xs := v0 :: r) hh
    · rintro r h ⟨rfl, ys, hF, l⟩
      exact ⟨rfl, ys, hF, led_swap l⟩
  · refine ex_ex fun ys => ex_and fun hF => ?_
    refine ex_ret (Tr.mono (ev_name (v := v0) (.head _) (by ktr_rel)) ?_)
    rintro _ h ⟨e, l⟩
    exact ⟨e, ys, hF, l.tail⟩

theorem hfy_okX {H : Addr} {vs : List Value} {lo : Value → Value → Bool} (W : Wd β) (hR : Rm 3 A) (O : Ord lo) {S : Value → Prop} (cmp : CmpOk prog w β (fun a b => lo b a) S) (hS : ∀ y ∈ vs, S y) (hlen : vs.length ≤ 1000) :
    Tr (model prog w) A (call (.ref 56) [.ref H]) (Led β (ls H vs :: σ)) (fun q h => q = .none ∧ ∃ ys, (ys.Perm vs ∧ HpL lo 0 ys) ∧ Led β (ls H ys :: σ) h) := by
  refine tr_fun (binds := [(("x" : Str), .ref H)]) W.f6 W.nolim hR (fun _ _ => rfl) (fun _ _ => rfl) (by decide +kernel) (by rfl) fun L pm cd A' hR' => ?_
  have m1 : (fun x => ([(("x" : Str), Value.ref H)] : List (Str × Value)).reverse.lookup x) "x" = some (.ref H) := rfl
  generalize (fun x => ([(("x" : Str), Value.ref H)] : List (Str × Value)).reverse.lookup x) = m at m1
  refine ex_seti (i := vs.length) ?_ fun tn => ?_
  · exact ev_len (ev_bl W.bLen) (ev_name (.head _) m1) (.inl (.tail _ (.head _)))
  obtain ⟨_, _, hfs⟩ := W.f10
  refine ex_for (ι := HfSt) (n := vs.length / 2) (src_rev hR'.1 (ev_bl W.bReversed) (ev_bl W.bRange) ((ev_div (ev_namei (.head _) upd_self) ev_int (by decide) (PyProof.noPylong_small (by decide))).mono fun v q => q.of ?_) (by omega))
    (fun y => y.b) (fun y => y.m) (fun y => ls H y.ys :: σ) (fun k y => y.m "x" = some (.ref H) ∧ y.ys.Perm vs ∧ HpL lo (vs.length / 2 - k) y.ys) ?_ ?_ ?_
  · rw [Int.fdiv_eq_ediv_of_nonneg _ (by decide)]; norm_cast
  · exact fun β' l => ⟨⟨β', _, vs⟩, rfl, rfl, rfl, by ktr_rel, .refl _, hpl_half⟩
  · intro k y v i hk hv hb hI
    obtain ⟨i1, i2, i3⟩ := hI
    obtain ⟨tv, rfl⟩ := hv
    have hylen : y.ys.length = vs.length := i2.length_eq
    refine ex_expr (Q := fun h => ∃ ys, (ys.Perm y.ys ∧ HpL lo (vs.length / 2 - (k + 1)) ys) ∧ Led y.b (fr L (upd y.m "i" (.int ((vs.length / 2 : Nat) - 1 - k) tv)) :: i :: ls H ys :: σ) h) ?_ ?_
    · refine tr_fn2 (ev_gl (W.le hb).g10) (hfs.le hb) (V1 := (· = .ref H)) (V2 := IsI ((vs.length / 2 : Nat) - 1 - k)) ?_ ?_ ?_
      · exact ev_name (.head _) (by ktr_rel)
      · exact ev_namei (.head _) (by ktr_rel)
      rintro _ v2 rfl e2
      refine Tr.pre (Tr.mono (su_okX (σ := fr L (upd y.m "i" (.int ((vs.length / 2 : Nat) - 1 - k) tv)) :: i :: σ) (s := vs.length / 2 - (k + 1)) (vs := y.ys) (W.le hb) hR' O (cmp.le hb) (fun z hz => hS z (i2.mem_iff.mp hz)) (by omega) ?_ (e2.of (by omega)) (by omega)) ?_) fun h l => l.perm (((List.Perm.swap _ _ _).cons _).trans (.swap _ _ _))
      · rw [show vs.length / 2 - (k + 1) + 1 = vs.length / 2 - k by omega]; exact i3
      · rintro r h ⟨rfl, ys, hF, l⟩
        exact ⟨rfl, ys, hF, l.perm ((List.Perm.swap _ _ _).trans ((List.Perm.swap _ _ _).cons _))⟩
    · refine ex_nil ?_
      rintro g ⟨ys, hF, l⟩
      refine ⟨.inl rfl, ⟨y.b, _, ys⟩, .refl _, ?_, l⟩
      exact ⟨by ktr_rel, hF.1.trans i2, hF.2⟩
  · rintro y hb ⟨i1, i2, i3⟩
    refine ex_nil fun g l => ⟨rfl, y.ys, ⟨i2, ?_⟩, l.tail.weak hb⟩
    rw [Nat.sub_self] at i3; exact i3

end


/-- the order of a way: the least first, or the greatest -/
def loW (way : Int) (lt : Value → Value → Bool) : Value → Value → Bool := if way = 0 then lt else fun a b => lt b a

section
variable {prog : Program} {w : World} {A : Around} {β : Base} {σ : List It}

theorem nh_none {H : Addr} {vs : List Value} {v0 vW : Value} {way : Int} {lt : Value → Value → Bool} (W : Wd β) (hR : Rm 4 A) (O : Ord (loW way lt)) {S : Value → Prop} (cmp : CmpOk prog w β lt S) (hS : ∀ y ∈ vs, S y)
    (eW : IsI way vW) (h0 : vs[0]? = some v0) (hh : HpL (loW way lt) 0 vs) (hlen : vs.length ≤ 1000) :
    Tr (model prog w) A (call (.ref 103) [.ref H, .none, vW]) (Led β (ls H vs :: σ)) (fun r h => r = v0 ∧ ∃ ys, ((v0 :: ys).Perm vs ∧ HpL (loW way lt) 0 ys) ∧ Led β (ls H ys :: σ) h) := by
  obtain ⟨tw, rfl⟩ := eW
  refine tr_fun (binds := [(("heap" : Str), .ref H), (("head" : Str), .none), (("way" : Str), .int way tw)]) W.f14 W.nolim hR (fun _ _ => rfl) (fun _ _ => rfl) (by decide +kernel) (by rfl) fun L pm cd A' hR' => ?_
  have m1 : (fun x => ([(("heap" : Str), Value.ref H), (("head" : Str), Value.none), (("way" : Str), Value.int way tw)] : List (Str × Value)).reverse.lookup x) "heap" = some (.ref H) := rfl
  have m2 : (fun x => ([(("heap" : Str), Value.ref H), (("head" : Str), Value.none), (("way" : Str), Value.int way tw)] : List (Str × Value)).reverse.lookup x) "head" = some .none := rfl
  have m3 : (fun x => ([(("heap" : Str), Value.ref H), (("head" : Str), Value.none), (("way" : Str), Value.int way tw)] : List (Str × Value)).reverse.lookup x) "way" = some (.int way tw) := rfl
  generalize (fun x => ([(("heap" : Str), Value.ref H), (("head" : Str), Value.none), (("way" : Str), Value.int way tw)] : List (Str × Value)).reverse.lookup x) = m at m1 m2 m3
  refine ex_if (c := true) ?_ (fun _ => ?_) (fun h => by cases h)
  · exact ts_is_none_yes (ev_name (.head _) m2) ev_none
  refine ex_if (c := way == 0) ?_ ?_ ?_
  · exact ts_eq (ev_namei (.head _) m3) ev_int
  · intro hw
    have hw : way = 0 := by simpa using hw
    have eL : loW way lt = lt := if_pos hw
    rw [eL] at O hh ⊢
    obtain ⟨_, _, hfs⟩ := W.f1
    refine ex_ret (tr_fn1 (ev_gl W.g1) hfs (V1 := (· = .ref H)) (ev_name (.head _) m1) ?_)
    rintro _ rfl
    refine Tr.pre (Tr.mono (hpop_ok (σ := fr L m :: σ) W hR' O cmp hS h0 hh hlen) ?_) fun h l => led_swap l
    rintro r h ⟨e, ys, hF, l⟩
    exact ⟨e, ys, hF, (led_swap l).tail⟩
  · intro hw
    have hw : way ≠ 0 := by simpa using hw
    have eL : loW way lt = fun a b => lt b a := if_neg hw
    rw [eL] at O hh ⊢
    obtain ⟨_, _, hfs⟩ := W.f4
    refine ex_end (ex_ret (tr_fn1 (ev_gl W.g4) hfs (V1 := (· = .ref H)) (ev_name (.head _) m1) ?_))
    rintro _ rfl
    refine Tr.pre (Tr.mono (hpop_okX (σ := fr L m :: σ) (lo := fun a b => lt b a) W hR' O cmp hS h0 hh hlen) ?_) fun h l => led_swap l
    rintro r h ⟨e, ys, hF, l⟩
    exact ⟨e, ys, hF, (led_swap l).tail⟩

theorem nh_some {H a : Addr} {vs : List Value} {v0 vW : Value} {r : List Value} {way : Int} {lt : Value → Value → Bool} (W : Wd β) (hR : Rm 4 A) (O : Ord (loW way lt)) {S : Value → Prop} (cmp : CmpOk prog w β lt S) (hS : ∀ y ∈ vs, S y) (hSi : S (.ref a))
    (eW : IsI way vW) (h0 : vs = v0 :: r) (hh : HpL (loW way lt) 0 vs) (hlen : vs.length ≤ 1000) :
    Tr (model prog w) A (call (.ref 103) [.ref H, .ref a, vW]) (Led β (ls H vs :: σ)) (fun q h => q = v0 ∧ ∃ ys, (ys.Perm (.ref a :: r) ∧ HpL (loW way lt) 0 ys) ∧ Led β (ls H ys :: σ) h) := by
  obtain ⟨tw, rfl⟩ := eW
  refine tr_fun (binds := [(("heap" : Str), .ref H), (("head" : Str), .ref a), (("way" : Str), .int way tw)]) W.f14 W.nolim hR (fun _ _ => rfl) (fun _ _ => rfl) (by decide +kernel) (by rfl) fun L pm cd A' hR' => ?_
  have m1 : (fun x => ([(("heap" : Str), Value.ref H), (("head" : Str), Value.ref a), (("way" : Str), Value.int way tw)] : List (Str × Value)).reverse.lookup x) "heap" = some (.ref H) := rfl
  have m2 : (fun x => ([(("heap" : Str), Value.ref H), (("head" : Str), Value.ref a), (("way" : Str), Value.int way tw)] : List (Str × Value)).reverse.lookup x) "head" = some (.ref a) := rfl
  have m3 : (fun x => ([(("heap" : Str), Value.ref H), (("head" : Str), Value.ref a), (("way" : Str), Value.int way tw)] : List (Str × Value)).reverse.lookup x) "way" = some (.int way tw) := rfl
  generalize (fun x => ([(("heap" : Str), Value.ref H), (("head" : Str), Value.ref a), (("way" : Str), Value.int way tw)] : List (Str × Value)).reverse.lookup x) = m at m1 m2 m3
  refine ex_if (c := false) ?_ (fun h => by cases h) (fun _ => ?_)
  · exact ts_is_none_no (ev_name (.head _) m2) ev_none
  refine ex_end ?_
  refine ex_if (c := way == 0) ?_ ?_ ?_
  · exact ts_eq (ev_namei (.head _) m3) ev_int
  · intro hw
    have hw : way = 0 := by simpa using hw
    have eL : loW way lt = lt := if_pos hw
    rw [eL] at O hh ⊢
    obtain ⟨_, _, hfs⟩ := W.f2
    refine ex_ret (tr_fn2 (ev_gl W.g2) hfs (V1 := (· = .ref H)) (V2 := (· = .ref a)) (ev_name (.head _) m1) (ev_name (.head _) m2) ?_)
    rintro _ _ rfl rfl
    refine Tr.pre (Tr.mono (hrep_ok (σ := fr L m :: σ) W hR' O cmp hS hSi h0 hh hlen) ?_) fun h l => led_swap l
    rintro r h ⟨e, ys, hF, l⟩
    exact ⟨e, ys, hF, (led_swap l).tail⟩
  · intro hw
    have hw : way ≠ 0 := by simpa using hw
    have eL : loW way lt = fun a b => lt b a := if_neg hw
    rw [eL] at O hh ⊢
    obtain ⟨_, _, hfs⟩ := W.f5
    refine ex_end (ex_ret (tr_fn2 (ev_gl W.g5) hfs (V1 := (· = .ref H)) (V2 := (· = .ref a)) (ev_name (.head _) m1) (ev_name (.head _) m2) ?_))
    rintro _ _ rfl rfl
    refine Tr.pre (Tr.mono (hrep_okX (σ := fr L m :: σ) (lo := fun a b => lt b a) W hR' O cmp hS hSi h0 hh hlen) ?_) fun h l => led_swap l
    rintro r h ⟨e, ys, hF, l⟩
    exact ⟨e, ys, hF, (led_swap l).tail⟩

/-! _law_value -/
def lawValue (n : Int) : Int := if (n.fdiv 4).fmod 2 = 0 then (n.fdiv 4).fdiv 2 else ((n.fdiv 4).fdiv 2).fmod 4
theorem value_ok {v : Value} {n : Int} (W : Wd β) (hR : Rm 1 A) (e : IsI n v) : Tr (model prog w) A (call (.ref 91) [v]) (Led β σ) (fun r h => IsI (lawValue n) r ∧ Led β σ h) := by
  obtain ⟨tn, rfl⟩ := e
  refine tr_fun (binds := [(("number" : Str), .int n tn)]) W.f12 W.nolim hR (fun _ _ => rfl) (fun _ _ => rfl) (by decide +kernel) (by rfl) fun L pm cd A' hR' => ?_
  have m1 : (fun x => ([(("number" : Str), Value.int n tn)] : List (Str × Value)).reverse.lookup x) "number" = some (.int n tn) := rfl
  generalize (fun x => ([(("number" : Str), Value.int n tn)] : List (Str × Value)).reverse.lookup x) = m at m1
  refine ex_seti (i := n.fdiv 4) ?_ fun t1 => ?_
  · exact ev_div (ev_namei (.head _) m1) ev_int (by decide) (PyProof.noPylong_small (by decide))
  refine ex_if (c := (n.fdiv 4).fmod 2 == 0) ?_ ?_ ?_
  · exact ts_eq (ev_mod (ev_namei (.head _) (by ktr_rel)) ev_int (by decide)) ev_int
  · intro hc
    refine ex_ret (Tr.mono (ev_div (ev_namei (.head _) (by ktr_rel)) ev_int (by decide) (PyProof.noPylong_small (by decide))) ?_)
    rintro r h ⟨e, l⟩
    exact ⟨e.of (by unfold lawValue; rw [if_pos (by simpa using hc)]), l.tail⟩
  · intro hc
    refine ex_end (ex_ret (Tr.mono (ev_mod (ev_div (ev_namei (.head _) (by ktr_rel)) ev_int (by decide) (PyProof.noPylong_small (by decide))) ev_int (by decide)) ?_))
    rintro r h ⟨e, l⟩
    exact ⟨e.of (by unfold lawValue; rw [if_neg (by simpa using hc)]), l.tail⟩
end

section
variable {prog : Program} {w : World} {A : Around} {env : Env} {β β' : Base} {σ σ' : List It} {m : Str → Option Value} {rest : List Stmt} {P Q : Heap → Prop} {R : Flow → Heap → Prop} {V1 : Value → Prop}

theorem tr_isCmp {l r : Expr} {op : CmpOp} {pos : Pos} {R1 : Value → Heap → Prop} {R2 : Value → Value → Heap → Prop} {S : Bool → Heap → Prop} (h1 : Tr (model prog w) A (eval l env) P R1) (h2 : ∀ a, Tr (model prog w) A (eval r env) (R1 a) (R2 a))
    (h3 : ∀ a b, Tr (model prog w) A (compareOp op a b) (R2 a b) (fun v h => ∃ c, v = .bool c ∧ S c h)) (hm : behindInMarks op r = false := by with_unfolding_all rfl) :
    Tr (model prog w) A (PySem.isTrue (.Compare l [op] [r] pos) env (eval (.Compare l [op] [r] pos) env)) P S := fun s hp =>
  wpAny_isTrue_Compare1 (Tr.use h1 hp fun a _ m1 r1 => Tr.use (h2 a) r1 fun b _ m2 r2 => Tr.use (h3 a b) r2 fun v _ m3 r3 => by
    obtain ⟨c, rfl, r3⟩ := r3; exact wpAny_truthy_bool ⟨(m1.trans m2).trans m3, r3⟩) hm
/-- xs != [] -/
theorem ts_ne_nil {l : Expr} {p pos : Pos} {a : Addr} {xs : List Value} (h1 : Ev prog w A env β σ l (· = .ref a)) (hl : ls a xs ∈ σ) (hu : A.units < cLine) : Ts prog w A env β σ (.Compare l [.NotEq] [.List [] p] pos) (!xs.isEmpty) :=
  tr_isCmp h1 (R2 := fun x y h => x = .ref a ∧ ∃ c, y = .ref c ∧ Led β (ls c [] :: σ) h) (fun x => Tr.and fun e => Tr.mono tr_list0 fun y h q => ⟨e, q⟩)
    (fun x y => Tr.and fun e => Tr.ex fun c => Tr.and fun e' => by
      subst e e'
      exact Tr.mono (tr_lne_nil (.inl (.tail _ hl)) (.inl (.head _)) hu) fun v h q => ⟨_, q.1, rfl, q.2.tail⟩)
/-- xs == [] -/
theorem ts_eq_nil {l : Expr} {p pos : Pos} {a : Addr} {xs : List Value} (h1 : Ev prog w A env β σ l (· = .ref a)) (hl : LsB β a xs) (hne : xs ≠ []) (hu : A.units < cLine) : Ts prog w A env β σ (.Compare l [.Eq] [.List [] p] pos) false :=
  tr_isCmp h1 (R2 := fun x y h => x = .ref a ∧ ∃ c, y = .ref c ∧ Led β (ls c [] :: σ) h) (fun x => Tr.and fun e => Tr.mono tr_list0 fun y h q => ⟨e, q⟩)
    (fun x y => Tr.and fun e => Tr.ex fun c => Tr.and fun e' => by
      subst e e'
      refine Tr.mono (tr_leq (c := false) (.inr hl) (.inl (.head _)) hu (.inr ⟨?_, rfl⟩)) fun v h q => ⟨_, q.1, rfl, q.2.tail⟩
      cases xs with
      | nil => exact absurd rfl hne
      | cons x xs => simp)

def iv (l : List (Int × Tok)) : List Value := l.map fun p => .int p.1 p.2
theorem iv_len {l : List (Int × Tok)} : (iv l).length = l.length := by simp [iv]
theorem iv_get {l : List (Int × Tok)} {k : Nat} {p : Int × Tok} (h : l[k]? = some p) : (iv l)[k]? = some (.int p.1 p.2) := by simp [iv, h]
theorem iv_set {l : List (Int × Tok)} {k : Nat} {i : Int} {t : Tok} : (iv l).set k (.int i t) = iv (l.set k (i, t)) := by simp [iv, List.map_set]
theorem iv_app {l : List (Int × Tok)} {i : Int} {t : Tok} : iv l ++ [.int i t] = iv (l ++ [(i, t)]) := by simp [iv]
theorem iv_take {l : List (Int × Tok)} {k : Nat} : (iv l).take k = iv (l.take k) := by simp [iv, List.map_take]

/-- sum of a list that is made on the spot -/
theorem ev_sumN {x : Str} {p pos : Pos} {e : Expr} {l : List (Int × Tok)} (hA : A.handled = none) (hf : Ev prog w A env β σ (.Name x p) (· = .builtin "sum")) (he : Tr (model prog w) A (eval e env) (Led β σ) (fun v h => ∃ c, v = .ref c ∧ Led β (ls c (iv l) :: σ) h)) (hb : ∀ p ∈ l, 0 ≤ p.1 ∧ p.1 ≤ 1000)
    (hs : starEach [e] env = [(false, eval e env)] := by rfl) : Ev prog w A env β σ (.Call (.Name x p) [e] [] pos) (IsI (l.map (·.1)).sum) :=
  tr_call1 hf (.inl ⟨_, rfl⟩) he (fun v => Tr.ex fun c => Tr.and fun e => by subst e; exact Tr.mono (tr_sum hA (.inl (.head _)) hb) fun v h q => ⟨q.1, q.2.tail⟩) hs

theorem led_rot {i j k : It} {h : Heap} (l : Led β (i :: j :: k :: σ) h) : Led β (k :: i :: j :: σ) h := l.perm (((List.Perm.swap _ _ _).cons _).trans (.swap _ _ _))
theorem led_tor {i j k : It} {h : Heap} (l : Led β (k :: i :: j :: σ) h) : Led β (i :: j :: k :: σ) h := l.perm ((List.Perm.swap _ _ _).trans ((List.Perm.swap _ _ _).cons _))

/-! ### heads -/
def keyOf (b : Base) : Value → Int × Int
  | .ref a => match b a with
    | some ⟨_, _, .seq xs _, _⟩ => match xs.toList with
      | [.int x _, .int y _] => (x, y)
      | _ => (0, 0)
    | _ => (0, 0)
  | _ => (0, 0)
theorem key_of {b : Base} {a : Addr} {x y : Int} {t u : Tok} (h : TpB b a [.int x t, .int y u]) : keyOf b (.ref a) = (x, y) := by unfold TpB at h; simp only [keyOf, h]; rfl
def Hd (b : Base) (v : Value) : Prop := ∃ a x y t u, v = .ref a ∧ TpB b a [.int x t, .int y u]
theorem Hd.le {v : Value} (h : Hd β v) (l : β.le β') : Hd β' v := let ⟨a, x, y, t, u, e, q⟩ := h; ⟨a, x, y, t, u, e, q.le l⟩
theorem Hd.key {v : Value} (h : Hd β v) (l : β.le β') : keyOf β' v = keyOf β v := by
  obtain ⟨a, x, y, t, u, rfl, q⟩ := h
  rw [key_of q, key_of (q.le l)]
def ltB (b : Base) (v u : Value) : Bool := tlt (keyOf b v) (keyOf b u)
theorem cmp_ok : CmpOk prog w β (ltB β) (Hd β) := by
  intro β' A σ v u hle hu hv hu'
  obtain ⟨a, x, y, t, s, rfl, q⟩ := hv
  obtain ⟨a', x', y', t', s', rfl, q'⟩ := hu'
  unfold ltB
  rw [key_of q, key_of q']
  exact tr_tlt (q.le hle) (q'.le hle) hu
theorem ord_tlt : Ord (fun a b : Value => ltB β a b) := by
  refine ⟨fun a b c h1 h2 => ?_, fun a b h => ?_⟩
  · unfold ltB tlt at *
    simp only [decide_eq_false_iff_not] at *
    omega
  · unfold ltB tlt at *
    simp only [decide_eq_false_iff_not, decide_eq_true_eq] at *
    omega
theorem ord_gt : Ord (fun a b : Value => ltB β b a) := by
  refine ⟨fun a b c h1 h2 => ?_, fun a b h => ?_⟩
  · unfold ltB tlt at *
    simp only [decide_eq_false_iff_not] at *
    omega
  · unfold ltB tlt at *
    simp only [decide_eq_false_iff_not, decide_eq_true_eq] at *
    omega
theorem ord_way {way : Int} : Ord (loW way (ltB β)) := by
  unfold loW
  split
  · exact ord_tlt
  · exact ord_gt
theorem hpl_le {way : Int} {hs : List Value} (h : HpL (loW way (ltB β)) 0 hs) (hh : ∀ v ∈ hs, Hd β v) (l : β.le β') : HpL (loW way (ltB β')) 0 hs := by
  intro i i1 i2 i3
  have q := h i i1 i2 i3
  have h1 : fn Value.none hs i ∈ hs := by
    have e : hs[i]? = some hs[i] := List.getElem?_eq_getElem i2
    rw [fn_get e]; exact List.getElem_mem i2
  have h2 : fn Value.none hs ((i - 1) / 2) ∈ hs := by
    have i2' : (i - 1) / 2 < hs.length := by omega
    have e : hs[(i - 1) / 2]? = some hs[(i - 1) / 2] := List.getElem?_eq_getElem i2'
    rw [fn_get e]; exact List.getElem_mem i2'
  generalize fn Value.none hs i = u at *
  generalize fn Value.none hs ((i - 1) / 2) = v at *
  unfold loW ltB at *
  split <;> rename_i hw
  · rw [if_pos hw] at q; dsimp only at *; rw [(hh _ h1).key l, (hh _ h2).key l]; exact q
  · rw [if_neg hw] at q; dsimp only at *; rw [(hh _ h1).key l, (hh _ h2).key l]; exact q
def sgnW (way : Int) (j : Nat) : Int := if way = 0 then j else -j
theorem sgnW_abs {way : Int} {j : Nat} : (sgnW way j).natAbs = j := by unfold sgnW; split <;> omega
def mkW (way : Int) (val : Nat → Int) (p : Nat) : Int := if way = 0 then val p else -val p

/-- the root of the heap is the least head -/
theorem root_least {way : Int} {hs : List Value} {val : Nat → Int} {T : Tb} {v0 : Value} {j p : Nat} (h : HpL (loW way (ltB β)) 0 hs) (h0 : hs[0]? = some v0) (hk : (hs.map (keyOf β)).Perm (hds val (sgnW way) 0 T)) (e : keyOf β v0 = (val p, sgnW way j)) : LeastAt (mkW way val) T j p := by
  intro U1 U2 a r q eT
  have hm : (val q, sgnW way (0 + U1.length)) ∈ hds val (sgnW way) 0 T := by rw [eT]; exact hds_has U1 U2 a r q 0
  rw [← hk.mem_iff] at hm
  obtain ⟨u, hu, eu⟩ := List.mem_map.mp hm
  obtain ⟨i, hi, e'⟩ := List.mem_iff_getElem.mp hu
  have hr := hp_root ord_way h i hi
  rw [fn_get h0, fn_get (List.getElem?_eq_getElem hi), e'] at hr
  unfold loW ltB at hr
  unfold mkW
  unfold sgnW at e eu
  split at hr <;> rename_i hw
  · simp only [if_pos hw] at e eu ⊢
    dsimp only at hr
    rw [e, eu] at hr
    unfold tlt at hr
    simp only [decide_eq_false_iff_not] at hr
    omega
  · simp only [if_neg hw] at e eu ⊢
    dsimp only at hr
    rw [e, eu] at hr
    unfold tlt at hr
    simp only [decide_eq_false_iff_not] at hr
    omega
end


abbrev rr (τ : Nat → Addr) (l : List Nat) : List Value := l.map fun p => .ref (τ p)
structure RowsAt (β : Base) (τ : Nat → Addr) (as : List Addr) (R : List (List Nat)) : Prop where
  len : as.length = R.length
  row : ∀ (j : Nat) (a : Addr) (r : List Nat), as[j]? = some a → R[j]? = some r → LsB β a (rr τ r)
  ne : ∀ r ∈ R, r ≠ []
theorem RowsAt.le {β β' : Base} {τ : Nat → Addr} {as : List Addr} {R : List (List Nat)} (h : RowsAt β τ as R) (l : β.le β') : RowsAt β' τ as R := ⟨h.len, fun j a r q e => (h.row j a r q e).le l, h.ne⟩
def PairsOk (β : Base) (τ : Nat → Addr) (val : Nat → Int) (N : Nat) : Prop := ∀ p, p < N → ∃ t u, TpB β (τ p) [.int (val p) t, .int p u]
theorem PairsOk.le {β β' : Base} {τ : Nat → Addr} {val : Nat → Int} {N : Nat} (h : PairsOk β τ val N) (l : β.le β') : PairsOk β' τ val N := fun p hp => let ⟨t, u, q⟩ := h p hp; ⟨t, u, q.le l⟩

theorem ex_frame {prog : Program} {w : World} {A : Around} {env : Env} {β : Base} {σ : List It} {ss : List Stmt} {L : Addr} {m : Str → Option Value} {R : Flow → Heap → Prop} (Pm : (Str → Option Value) → Prop) (h : Pm m) (k : ∀ m', Pm m' → Ex prog w A env ss (Led β (fr L m' :: σ)) R) : Ex prog w A env ss (Led β (fr L m :: σ)) R := k m h
theorem flat_le : ∀ (T : Tb), (T.map (·.1)).flatten.length ≤ (Mine.rowsOf T).flatten.length
  | [] => Nat.le_refl _
  | t :: T => by
    have := flat_le T
    simp only [Mine.rowsOf, List.map_cons, List.flatten_cons, List.length_append] at this ⊢
    omega
theorem hds_len {val sgn : Nat → Int} : ∀ (T : Tb) (k : Nat), (hds val sgn k T).length ≤ T.length
  | [], _ => Nat.le_refl _
  | (a, []) :: T, k => by have := hds_len (val := val) (sgn := sgn) T (k + 1); rw [hds]; simp only [List.length_cons]; omega
  | (a, p :: r) :: T, k => by have := hds_len (val := val) (sgn := sgn) T (k + 1); rw [hds]; simp only [List.length_cons]; omega
theorem row_le {R : List (List Nat)} {r : List Nat} (h : r ∈ R) : r.length ≤ R.flatten.length := (List.sublist_flatten_of_mem h).length_le

structure FSt where
  b : Base
  m : Str → Option Value
  hs : List Value
structure JSt where
  b : Base
  m : Str → Option Value
  hs : List Value
  lf : List (Int × Tok)
  cs : List (Int × Tok)
  done : List Nat
  T : Tb

section
variable {prog : Program} {w : World} {A : Around} {β : Base} {σ : List It}

/-- what the law's joining asks and gives -/
structure JIn (β : Base) (τ : Nat → Addr) (val : Nat → Int) (way : Int) (N : Nat) (RA : Addr) (as : List Addr) (R : List (List Nat)) : Prop where
  rows : LsB β RA (as.map .ref)
  at_ : RowsAt β τ as R
  pairs : PairsOk β τ val N
  mem : ∀ r ∈ R, ∀ p ∈ r, p < N
  ok : RowsOk (mkW way val) R
  len : R.flatten.length ≤ 900
structure JOut (mk : Nat → Int) (R : List (List Nat)) (cs cs' : List (Int × Tok)) (done : List Nat) : Prop where
  srt : done.Pairwise (prec mk)
  perm : done.Perm R.flatten
  len : cs'.length = cs.length
  cnt : ∀ (p : Nat) (c c0 : Int × Tok), cs'[p]? = some c → cs[p]? = some c0 → c.1 = c0.1 + (if p ∈ R.flatten then (addOf mk R p : Int) else 0)

structure JInv (β : Base) (L : Addr) (RA CA LA HA JA : Addr) (vW : Value) (val : Nat → Int) (way : Int) (R : List (List Nat)) (cs : List (Int × Tok)) (y : JSt) : Prop where
  le : β.le y.b
  m1 : y.m "rows" = some (.ref RA)
  m2 : y.m "way" = some vW
  m3 : y.m "counts" = some (.ref CA)
  m4 : y.m "left" = some (.ref LA)
  m5 : y.m "heap" = some (.ref HA)
  m6 : y.m "joined" = some (.ref JA)
  rws : rowsOf y.T = R
  mg : Mg (mkW way val) y.T y.done
  lf : y.lf.map (·.1) = y.T.map fun t => (t.2.length : Int)
  hk : (y.hs.map (keyOf y.b)).Perm (hds val (sgnW way) 0 y.T)
  hd : ∀ v ∈ y.hs, Hd y.b v
  hp : HpL (loW way (ltB y.b)) 0 y.hs
  len : y.cs.length = cs.length
  cnt : ∀ (p : Nat) (c c0 : Int × Tok), y.cs[p]? = some c → cs[p]? = some c0 → c.1 = c0.1 + (if p ∈ y.done then (addOf (mkW way val) R p : Int) else 0)

theorem JInv.step {L RA CA LA HA JA : Addr} {vW : Value} {val : Nat → Int} {way : Int} {R : List (List Nat)} {cs : List (Int × Tok)} {z : JSt} (hz : JInv β L RA CA LA HA JA vW val way R cs z) (hok : RowsOk (mkW way val) R)
    {T1 T2 : Tb} {pre r : List Nat} {p : Nat} (eT : z.T = T1 ++ (pre, p :: r) :: T2) (hl : LeastAt (mkW way val) z.T T1.length p) (hnew : p ∉ z.done) {b' : Base} {m' : Str → Option Value} {hs' : List Value} {tl tc : Tok} {c : Int × Tok} (le' : z.b.le b')
    (n1 : m' "rows" = some (.ref RA)) (n2 : m' "way" = some vW) (n3 : m' "counts" = some (.ref CA)) (n4 : m' "left" = some (.ref LA)) (n5 : m' "heap" = some (.ref HA)) (n6 : m' "joined" = some (.ref JA))
    (hc : z.cs[p]? = some c) (hk' : (hs'.map (keyOf b')).Perm (hds val (sgnW way) 0 (T1 ++ (pre ++ [p], r) :: T2))) (hd' : ∀ v ∈ hs', Hd b' v) (hp' : HpL (loW way (ltB b')) 0 hs') :
    JInv β L RA CA LA HA JA vW val way R cs ⟨b', m', hs', z.lf.set T1.length ((r.length : Int), tl), z.cs.set p (c.1 + (T1.map fun t => (t.2.length : Int)).sum, tc), z.done ++ [p], T1 ++ (pre ++ [p], r) :: T2⟩ := by
  have hrw := hz.rws
  have hmg := hz.mg
  rw [eT] at hrw hmg hl
  have hok' : RowsOk (mkW way val) (rowsOf (T1 ++ (pre, p :: r) :: T2)) := by rw [hrw]; exact hok
  have hadd := hmg.add hok' hl
  rw [hrw] at hadd
  have hsum : ((T1.map fun t => (t.2.length : Int)).sum) = (addOf (mkW way val) R p : Int) := by
    rw [hadd]
    clear hl hadd hmg hok' hrw eT hk'
    induction T1 with
    | nil => rfl
    | cons t T1 ih => simp only [List.map_cons, List.sum_cons, ih]; omega
  refine ⟨hz.le.trans le', n1, n2, n3, n4, n5, n6, ?_, hmg.step hok' hl, ?_, hk', hd', hp', ?_, ?_⟩
  · rw [← hrw]; simp [rowsOf]
  · show (z.lf.set T1.length ((r.length : Int), tl)).map (·.1) = _
    rw [List.map_set, hz.lf, eT]
    simp
  · show (z.cs.set p _).length = _
    rw [List.length_set]; exact hz.len
  · intro q d d0 hq hq0
    dsimp only at hq
    by_cases e : p = q
    · subst e
      rw [List.getElem?_set_self (List.getElem?_eq_some_iff.mp hc).1] at hq
      cases hq
      have := hz.cnt p c d0 hc hq0
      rw [if_neg hnew] at this
      simp only [List.mem_append, List.mem_singleton, or_true, if_true]
      rw [hsum, this]; omega
    · rw [List.getElem?_set_ne e] at hq
      rw [hz.cnt q d d0 hq hq0]
      have : (q ∈ z.done ++ [p]) ↔ q ∈ z.done := by simp; intro h; exact absurd h.symm e
      simp only [this]

theorem joined_ok {RA CA : Addr} {vW : Value} {τ : Nat → Addr} {val : Nat → Int} {way : Int} {N : Nat} {as : List Addr} {R : List (List Nat)} {cs : List (Int × Tok)} (W : Wd β) (hR : Rm 5 A) (hin : JIn β τ val way N RA as R) (hN : cs.length = N) (eW : IsI way vW) :
    Tr (model prog w) A (call (.ref 108) [.ref RA, vW, .ref CA]) (Led β (ls CA (iv cs) :: σ))
      (fun r h => ∃ J done cs', r = .ref J ∧ JOut (mkW way val) R cs cs' done ∧ Led β (ls J (rr τ done) :: ls CA (iv cs') :: σ) h) := by
  obtain ⟨hrows, hat, hpairs, hmem, hok, hRlen⟩ := hin
  refine tr_fun (binds := [(("rows" : Str), .ref RA), (("way" : Str), vW), (("counts" : Str), .ref CA)]) W.f15 W.nolim hR (fun _ _ => rfl) (fun _ _ => rfl) (by decide +kernel) (by rfl) fun L pm cd A' hR' => ?_
  have m1 : (fun x => ([(("rows" : Str), Value.ref RA), (("way" : Str), vW), (("counts" : Str), Value.ref CA)] : List (Str × Value)).reverse.lookup x) "rows" = some (.ref RA) := rfl
  have m2 : (fun x => ([(("rows" : Str), Value.ref RA), (("way" : Str), vW), (("counts" : Str), Value.ref CA)] : List (Str × Value)).reverse.lookup x) "way" = some vW := rfl
  have m3 : (fun x => ([(("rows" : Str), Value.ref RA), (("way" : Str), vW), (("counts" : Str), Value.ref CA)] : List (Str × Value)).reverse.lookup x) "counts" = some (.ref CA) := rfl
  generalize (fun x => ([(("rows" : Str), Value.ref RA), (("way" : Str), vW), (("counts" : Str), Value.ref CA)] : List (Str × Value)).reverse.lookup x) = m at m1 m2 m3
  obtain ⟨tw, eW'⟩ := eW
  have hlen : (as.map Value.ref).length = R.length := by rw [List.length_map, hat.len]
  have hrl := hrows.1
  rw [hlen] at hrl
  have hA := hR'.1
  -- left = [len(row) for row in rows]
  refine ex_compset (n := (as.map Value.ref).length) (Acc := fun k ys _ => ∃ lf : List (Int × Tok), ys = iv lf ∧ lf.map (·.1) = (R.take k).map fun r => (r.length : Int)) {
      V := fun k v => (as.map Value.ref)[k]? = some v
      cnd := fun _ _ => true
      G := fun k v m' => m' "row" = some v
      src := src_list hA (ev_name (.head _) m1) hrows
      hn := hrows.1
      h0 := fun _ _ => ⟨[], rfl, rfl⟩
      hasg := fun C i j k v β' m hk hv hb => Tr.mono (tr_assignN (tr_store .head)) fun _ h l => ⟨_, upd_self, l⟩
      htest := fun C i j k v β' m' hk hv hb g s hp => wpAny_tests_nil ⟨Sm.refl s, rfl, hp⟩
      hskip := fun k v ys β' hk hv hb acc h => by cases h
      helt := fun C i j k v ys β' m' hk hv hb acc g _ => by
        obtain ⟨lf, rfl, e⟩ := acc
        have hk' : k < R.length := by omega
        have hka : k < as.length := by rw [hat.len]; exact hk'
        have ea : as[k]? = some as[k] := List.getElem?_eq_getElem hka
        have er : R[k]? = some R[k] := List.getElem?_eq_getElem hk'
        have ev : v = .ref as[k] := by rw [List.getElem?_map, ea] at hv; exact (Option.some.inj hv).symm
        subst ev
        have hrow := (hat.row k _ _ ea er).le hb
        refine Tr.mono (ev_len (ev_bl (W.le hb).bLen) (ev_name (.head _) g) (.inr hrow)) ?_
        rintro y h ⟨⟨t, rfl⟩, l⟩
        refine ⟨β', .refl _, ⟨lf ++ [(((rr τ R[k]).length : Int), t)], iv_app, ?_⟩, l⟩
        rw [List.map_append, e, List.take_succ_eq_append_getElem hk', List.map_append]
        simp
      hs := fun _ => rfl
      hclos := rfl
      hkind := rfl
      hnames := by decide +kernel
      hcell := by decide +kernel } ?_
  rintro LA ys β1 hb1 ⟨lf, rfl, elf⟩
  rw [hlen, List.take_length] at elf
  -- heap = []
  refine ex_setG (ι := Addr) (C := fun a v => v = .ref a) (β' := fun _ => β1) (σ1 := fun a => ls a [] :: ls LA (iv lf) :: ls CA (iv cs) :: σ) (Tr.mono tr_list0 fun v h ⟨a, e, l⟩ => ⟨a, e, led_swap l⟩) ?_
  rintro HA _ rfl
  -- the heads
  refine ex_for (ι := FSt) (n := (as.map Value.ref).length) (src_range hA (ev_bl (W.le hb1).bRange) (ev_len (ev_bl (W.le hb1).bLen) (ev_name (.head _) (by ktr_rel)) (.inr (hrows.le hb1))) hrows.1)
    (fun y => y.b) (fun y => y.m) (fun y => ls HA y.hs :: ls LA (iv lf) :: ls CA (iv cs) :: σ)
    (fun k y => (y.m "rows" = some (.ref RA) ∧ y.m "way" = some vW ∧ y.m "counts" = some (.ref CA) ∧ y.m "left" = some (.ref LA) ∧ y.m "heap" = some (.ref HA)) ∧ y.hs.map (keyOf y.b) = hds val (sgnW way) 0 ((R.take k).map fun r => ([], r)) ∧ (∀ v ∈ y.hs, Hd y.b v) ∧ y.hs.length = k) ?_ ?_ ?_
  · intro β2 hb2
    refine ⟨⟨β2, _, []⟩, rfl, rfl, rfl, ?_, rfl, (fun v hv => by cases hv), rfl⟩
    exact ⟨by ktr_rel, by ktr_rel, by ktr_rel, by ktr_rel, by ktr_rel⟩
  · intro k y v i hk hv hb ⟨⟨i1, i2, i3, i4, i5⟩, ikey, ihd, ilen⟩
    obtain ⟨tv, rfl⟩ := hv
    have hbb : β.le y.b := hb1.trans hb
    have hk' : k < R.length := by omega
    have hka : k < as.length := by rw [hat.len]; exact hk'
    have ea : as[k]? = some as[k] := List.getElem?_eq_getElem hka
    have er : R[k]? = some R[k] := List.getElem?_eq_getElem hk'
    have hrow := (hat.row k _ _ ea er).le hbb
    obtain ⟨p, r, epr⟩ : ∃ p r, R[k] = p :: r := by
      cases q : R[k] with
      | nil => exact absurd q (hat.ne _ (List.getElem_mem hk'))
      | cons p r => exact ⟨p, r, rfl⟩
    have hp : p < N := hmem _ (List.getElem_mem hk') p (by rw [epr]; simp)
    obtain ⟨t1, t2, htp⟩ := hpairs p hp
    rw [epr] at hrow
    refine ex_expr (Q := fun h => ∃ x : Base × Addr × Value × Value, (x.2.2.1 = .int (val p) t1 ∧ IsI (sgnW way k) x.2.2.2 ∧ TpB x.1 x.2.1 [x.2.2.1, x.2.2.2] ∧ y.b.le x.1) ∧
      Led x.1 (fr L (upd y.m "at" (.int k tv)) :: i :: ls HA (y.hs ++ [.ref x.2.1]) :: ls LA (iv lf) :: ls CA (iv cs) :: σ) h) ?_ ?_
    · refine tr_append (ι := Base × Addr × Value × Value) (xs := y.hs) (C := fun x v => (x.2.2.1 = .int (val p) t1) ∧ IsI (sgnW way k) x.2.2.2 ∧ v = .ref x.2.1 ∧ TpB x.1 x.2.1 [x.2.2.1, x.2.2.2] ∧ y.b.le x.1) (β' := fun x => x.1)
        (σ1 := fun _ => fr L (upd y.m "at" (.int k tv)) :: i :: ls HA y.hs :: ls LA (iv lf) :: ls CA (iv cs) :: σ) (ev_name (.head _) (by ktr_rel)) (.tail _ (.tail _ (.head _))) ?_ ?_
      · refine tr_tup2 (V1 := (· = .int (val p) t1)) (V2 := IsI (sgnW way k)) ?_ ?_
        · refine ev_titem (k := 0) (a := τ p) (xs := [.int (val p) t1, .int p t2]) ?_ ev_int (htp.le hbb) (by simp) (by decide) rfl
          refine ev_item (k := 0) (a := as[k]) (xs := rr τ (p :: r)) ?_ ev_int (.inr hrow) (by decide) rfl
          refine ev_item (k := k) (a := RA) (xs := as.map .ref) (ev_name (.head _) (by ktr_rel)) (ev_namei (.head _) upd_self) (.inr (hrows.le hbb)) (by omega) ?_
          rw [Int.toNat_natCast, List.getElem?_map, ea]; rfl
        · refine ev_ifexp (c := way == 0) ?_ ?_ ?_
          · exact ts_eq ((ev_name (.head _) (by ktr_rel)).mono fun v e => ⟨tw, e.trans eW'⟩) ev_int
          · intro hw
            exact (ev_namei (.head _) upd_self).mono fun v q => q.of (by unfold sgnW; rw [if_pos (by simpa using hw)])
          · intro hw
            exact (ev_neg (ev_namei (.head _) upd_self)).mono fun v q => q.of (by unfold sgnW; rw [if_neg (by simpa using hw)])
      · rintro x v ⟨c1, c2, rfl, c4, c5⟩
        refine Tr.mono (tr_append1 (.tail (.tail .head)) (by omega)) ?_
        rintro r h ⟨e, l⟩
        exact ⟨e, x, ⟨c1, c2, c4, c5⟩, l⟩
    · refine ex_nil ?_
      rintro g ⟨⟨b', a, x1, x2⟩, ⟨c1, ⟨t3, c2⟩, c4, c5⟩, l⟩
      dsimp only at c1 c2 c4 c5 l
      subst c1 c2
      refine ⟨.inl rfl, ⟨b', _, y.hs ++ [Value.ref a]⟩, c5, ?_, l⟩
      refine ⟨⟨by ktr_rel, by ktr_rel, by ktr_rel, by ktr_rel, by ktr_rel⟩, ?_, ?_, by simp [ilen]⟩
      · dsimp only
        rw [List.map_append, List.take_succ_eq_append_getElem hk', List.map_append, hds_app]
        rw [show y.hs.map (keyOf b') = y.hs.map (keyOf y.b) from List.map_congr_left fun v hv => (ihd v hv).key c5, ikey]
        simp only [List.map_cons, List.map_nil, key_of c4, epr, hds, List.length_map, List.length_take, Nat.zero_add]
        rw [Nat.min_eq_left (by omega)]
      · intro v hv
        rcases List.mem_append.mp hv with hv | hv
        · exact (ihd v hv).le c5
        · rw [List.mem_singleton.mp hv]; exact ⟨a, _, _, _, _, rfl, c4⟩
  · intro y hb ⟨⟨i1, i2, i3, i4, i5⟩, ikey, ihd, ilen⟩
    have hbb : β.le y.b := hb1.trans hb
    rw [hlen, List.take_length] at ikey
    have W' := W.le hbb
    -- heapify
    refine ex_ifQ (c := way == 0) (Q := fun h => ∃ ys, (ys.Perm y.hs ∧ HpL (loW way (ltB y.b)) 0 ys) ∧ Led y.b (fr L y.m :: ls HA ys :: ls LA (iv lf) :: ls CA (iv cs) :: σ) h) ?_ ?_ ?_ ?_
    · exact ts_eq ((ev_name (.head _) i2).mono fun v e => ⟨tw, e.trans eW'⟩) ev_int
    · intro hw
      have hw : way = 0 := by simpa using hw
      have eL : loW way (ltB y.b) = ltB y.b := if_pos hw
      obtain ⟨_, _, hfs⟩ := W'.f3
      refine ex_expr (Q := fun h => ∃ ys, (ys.Perm y.hs ∧ HpL (loW way (ltB y.b)) 0 ys) ∧ Led y.b (fr L y.m :: ls HA ys :: ls LA (iv lf) :: ls CA (iv cs) :: σ) h) ?_ (ex_nil fun g q => ⟨rfl, q⟩)
      refine tr_fn1 (ev_gl W'.g3) hfs (V1 := (· = .ref HA)) (ev_name (.head _) i5) ?_
      rintro _ rfl
      refine Tr.pre (Tr.mono (hfy_ok (σ := fr L y.m :: ls LA (iv lf) :: ls CA (iv cs) :: σ) W' (hR'.less (by omega)) ord_tlt cmp_ok ihd (by omega)) ?_) fun h l => led_swap l
      rintro r h ⟨e, ys, hF, l⟩
      exact ⟨e, ys, ⟨hF.1, by rw [eL]; exact hF.2⟩, led_swap l⟩
    · intro hw
      have hw : way ≠ 0 := by simpa using hw
      have eL : loW way (ltB y.b) = fun a b => ltB y.b b a := if_neg hw
      obtain ⟨_, _, hfs⟩ := W'.f6
      refine ex_expr (Q := fun h => ∃ ys, (ys.Perm y.hs ∧ HpL (loW way (ltB y.b)) 0 ys) ∧ Led y.b (fr L y.m :: ls HA ys :: ls LA (iv lf) :: ls CA (iv cs) :: σ) h) ?_ (ex_nil fun g q => ⟨rfl, q⟩)
      refine tr_fn1 (ev_gl W'.g6) hfs (V1 := (· = .ref HA)) (ev_name (.head _) i5) ?_
      rintro _ rfl
      refine Tr.pre (Tr.mono (hfy_okX (σ := fr L y.m :: ls LA (iv lf) :: ls CA (iv cs) :: σ) (lo := fun a b => ltB y.b b a) W' (hR'.less (by omega)) ord_gt cmp_ok ihd (by omega)) ?_) fun h l => led_swap l
      rintro r h ⟨e, ys, hF, l⟩
      exact ⟨e, ys, ⟨hF.1, by rw [eL]; exact hF.2⟩, led_swap l⟩
    refine ex_ex fun ys => ex_and fun hys => ?_
    obtain ⟨hyp, hyh⟩ := hys
    -- joined = []
    refine ex_setG (ι := Addr) (C := fun a v => v = .ref a) (β' := fun _ => y.b) (σ1 := fun a => ls a [] :: ls HA ys :: ls LA (iv lf) :: ls CA (iv cs) :: σ) (Tr.mono tr_list0 fun v h ⟨a, e, l⟩ => ⟨a, e, led_swap l⟩) ?_
    rintro JA _ rfl
    let I : JSt → Prop := JInv β L RA CA LA HA JA vW val way R cs
    let LedJ : JSt → Heap → Prop := fun z => Led z.b (fr L z.m :: ls JA (rr τ z.done) :: ls HA z.hs :: ls LA (iv z.lf) :: ls CA (iv z.cs) :: σ)
    refine Ex.pre (ex_while (ι := JSt) (fun z h => I z ∧ LedJ z h) (fun z => (z.T.map fun t => t.2.length).sum) (B := fun z h => (I z ∧ z.hs ≠ []) ∧ LedJ z h) (D := fun h => ∃ z, (I z ∧ z.hs = []) ∧ LedJ z h) ?_ ?_ ?_ ⟨y.b, upd y.m "joined" (.ref JA), ys, lf, cs, [], R.map fun r => ([], r)⟩) ?_
    · intro z
      refine Tr.and fun hz => ?_
      refine Tr.mono (ts_ne_nil (a := HA) (xs := z.hs) (ev_name (.head _) hz.m5) (.tail _ (.tail _ (.head _))) hR'.units) ?_
      rintro c h ⟨rfl, l⟩
      cases q : z.hs with
      | nil => rw [if_neg (by simp)]; exact ⟨z, ⟨hz, q⟩, l⟩
      | cons a b => rw [if_pos (by simp)]; exact ⟨⟨hz, by simp [q]⟩, l⟩
    · intro z
      refine ex_and fun hzz => ?_
      obtain ⟨hz, hne⟩ := hzz
      have W' := W.le hz.le
      obtain ⟨v0, r0, ehs⟩ : ∃ v0 r0, z.hs = v0 :: r0 := by
        cases q : z.hs with
        | nil => exact absurd q hne
        | cons a b => exact ⟨a, b, rfl⟩
      have h00 : z.hs[0]? = some v0 := by rw [ehs]; rfl
      have hm0 : v0 ∈ z.hs := by rw [ehs]; simp
      obtain ⟨a0, x0, y0, t0, u0, ev0, htop⟩ := hz.hd v0 hm0
      subst ev0
      have ek : keyOf z.b (.ref a0) = (x0, y0) := key_of htop
      have hin0 : (x0, y0) ∈ hds val (sgnW way) 0 z.T := by
        rw [← hz.hk.mem_iff]; exact List.mem_map.mpr ⟨_, hm0, ek⟩
      obtain ⟨T1, pre, p, r, T2, eT, exy⟩ := hds_mem _ _ _ hin0
      obtain ⟨ex0, ey0⟩ := Prod.mk.inj exy
      rw [Nat.zero_add] at ey0
      have hleast : LeastAt (mkW way val) z.T T1.length p := root_least hz.hp h00 hz.hk (by rw [ek, ex0, ey0])
      have eR : R = rowsOf T1 ++ (pre ++ p :: r) :: rowsOf T2 := by rw [← hz.rws, eT]; simp [rowsOf]
      have hjR : T1.length < R.length := by rw [eR]; simp [rowsOf]
      have erow : R[T1.length]? = some (pre ++ p :: r) := by rw [eR, List.getElem?_append_right (by simp [rowsOf])]; simp [rowsOf]
      have hja : T1.length < as.length := by rw [hat.len]; exact hjR
      have ea : as[T1.length]? = some as[T1.length] := List.getElem?_eq_getElem hja
      have hrow := (hat.row _ _ _ ea erow).le hz.le
      have hpN : p < N := hmem (pre ++ p :: r) (List.mem_of_getElem? erow) p (by simp)
      obtain ⟨tp1, tp2, htp⟩ := hpairs p hpN
      have htp := htp.le hz.le
      have hlfl : z.lf.length = z.T.length := by have := congrArg List.length hz.lf; simpa using this
      have hjT : T1.length < z.T.length := by rw [eT]; simp
      obtain ⟨cl, hcl⟩ : ∃ c, z.lf[T1.length]? = some c := ⟨_, List.getElem?_eq_getElem (by omega)⟩
      have ecl : cl.1 = (r.length : Int) + 1 := by
        have := congrArg (fun l => l[T1.length]?) hz.lf
        simp only [List.getElem?_map, hcl, eT] at this
        rw [List.getElem?_append_right (Nat.le_refl _)] at this
        simpa using this
      obtain ⟨cl1, tl0⟩ := cl
      dsimp only at ecl
      subst ecl
      obtain ⟨cc, hcc⟩ : ∃ c, z.cs[p]? = some c := ⟨_, List.getElem?_eq_getElem (by rw [hz.len, hN]; exact hpN)⟩
      have hnd : p ∉ z.done := by
        intro hp
        have := hz.mg.lt p hp (pre, p :: r) (by rw [eT]; simp) p (by simp)
        unfold prec at this; omega
      -- top = heap[0]
      refine ex_setv (v := .ref a0) ?_ ?_
      · exact ev_item (k := 0) (ev_name (.head _) hz.m5) ev_int (.inl (.tail _ (.tail _ (.head _)))) (by decide) h00
      -- at = abs(top[1])
      refine ex_seti (i := (T1.length : Int)) ?_ fun ta => ?_
      · refine (ev_abs (i := y0) (ev_bl W'.bAbs) ?_).mono fun v q => q.of (by rw [ey0, sgnW_abs])
        exact (ev_titem (k := 1) (a := a0) (xs := [.int x0 t0, .int y0 u0]) (ev_name (.head _) upd_self) ev_int htop (by simp) (by decide) rfl).mono fun v q => ⟨u0, q⟩
      -- row = rows[at]
      have hrowsz := hrows.le hz.le
      refine ex_setv (v := .ref as[T1.length]) ?_ ?_
      · refine ev_item (k := T1.length) (a := RA) (xs := as.map .ref) (ev_name (.head _) (by have := hz.m1; ktr_rel)) (ev_namei (.head _) upd_self) (.inr hrowsz) (by omega) ?_
        rw [Int.toNat_natCast, List.getElem?_map, ea]; rfl
      have z1 := hz.m1
      have z2 := hz.m2
      have z3 := hz.m3
      have z4 := hz.m4
      have z5 := hz.m5
      have z6 := hz.m6
      -- pair = row[len(row) - left[at]]
      refine ex_setv (v := .ref (τ p)) ?_ ?_
      · refine ev_item (k := pre.length) (a := as[T1.length]) (xs := rr τ (pre ++ p :: r)) (ev_name (.head _) (by ktr_rel)) ?_ (.inr hrow) (by omega) ?_
        · refine (ev_sub (i := (rr τ (pre ++ p :: r)).length) (j := (r.length : Int) + 1) (ev_len (ev_bl W'.bLen) (ev_name (.head _) (by ktr_rel)) (.inr hrow)) ?_).mono fun v q => q.of (by simp)
          refine (ev_item (k := T1.length) (a := LA) (xs := iv z.lf) (ev_name (.head _) (by ktr_rel)) (ev_namei (.head _) (by ktr_rel)) (.inl (.tail _ (.tail _ (.tail _ (.head _))))) (by omega) ?_).mono fun v q => ⟨tl0, q⟩
          rw [Int.toNat_natCast]; exact iv_get hcl
        · rw [Int.toNat_natCast]; simp [rr]
      -- left[at] -= 1
      refine ex_augitem (a := LA) (xs := iv z.lf) (k := T1.length) (old := (r.length : Int) + 1) (d := 1) (new := (r.length : Int)) (t0 := tl0) (σ2 := fun t => fr L _ :: ls JA (rr τ z.done) :: ls HA z.hs :: ls LA ((iv z.lf).set (T1.length : Int).toNat (.int r.length t)) :: ls CA (iv z.cs) :: σ) ?_ ?_ ev_int ?_ (by omega) (.inr ⟨rfl, by omega⟩) (fun t => .tail (.tail (.tail .head))) fun tl => ?_
      · exact ev_name (.head _) (by ktr_rel)
      · exact ev_namei (.head _) (by ktr_rel)
      · rw [Int.toNat_natCast]; exact iv_get hcl
      rw [Int.toNat_natCast, iv_set]
      have hlf' : (z.lf.set T1.length ((r.length : Int), tl))[T1.length]? = some ((r.length : Int), tl) := by rw [List.getElem?_set_self (by omega)]
      -- counts[pair[1]] += sum(left[:at])
      refine ex_augitem (a := CA) (xs := iv z.cs) (k := p) (old := cc.1) (d := (T1.map fun t => (t.2.length : Int)).sum) (new := cc.1 + (T1.map fun t => (t.2.length : Int)).sum) (t0 := cc.2)
        (σ2 := fun t => fr L _ :: ls JA (rr τ z.done) :: ls HA z.hs :: ls LA (iv (z.lf.set T1.length ((r.length : Int), tl))) :: ls CA ((iv z.cs).set (p : Int).toNat (.int (cc.1 + (T1.map fun t => (t.2.length : Int)).sum) t)) :: σ) ?_ ?_ ?_ ?_ (by omega) (.inl ⟨rfl, rfl⟩) (fun t => .tail (.tail (.tail (.tail .head)))) fun tc => ?_
      · exact ev_name (.head _) (by ktr_rel)
      · exact (ev_titem (k := 1) (a := τ p) (xs := [.int (val p) tp1, .int p tp2]) (ev_name (.head _) (by ktr_rel)) ev_int htp (by simp) (by decide) rfl).mono fun v q => ⟨tp2, q⟩
      · refine (ev_sumN (l := (z.lf.set T1.length ((r.length : Int), tl)).take T1.length) hA (ev_bl W'.bSum) ?_ ?_).mono fun v q => q.of ?_
        · refine Tr.mono (tr_take (k := T1.length) (ev_name (.head _) (by ktr_rel)) (.inl (.tail _ (.tail _ (.tail _ (.head _))))) (ev_namei (.head _) (by ktr_rel))) ?_
          rintro v h ⟨c, e, l⟩
          rw [iv_take] at l
          exact ⟨c, e, l⟩
        · intro q hq
          rw [List.take_set_of_le (Nat.le_refl _)] at hq
          have hq1 : q.1 ∈ z.lf.map (·.1) := List.mem_map_of_mem (List.mem_of_mem_take hq)
          rw [hz.lf] at hq1
          obtain ⟨t, ht, e⟩ := List.mem_map.mp hq1
          have h1 : (t.1 ++ t.2) ∈ R := by rw [← hz.rws]; exact List.mem_map.mpr ⟨t, ht, rfl⟩
          have h2 := row_le h1
          rw [List.length_append] at h2
          omega
        · rw [List.take_set_of_le (Nat.le_refl _), List.map_take, hz.lf, eT, List.map_append, List.take_append_of_le_length (by simp), List.take_of_length_le (by simp)]
      · rw [Int.toNat_natCast]; exact iv_get hcc
      rw [Int.toNat_natCast, iv_set]
      have hdl : z.done.length ≤ 900 := by
        have h1 := hz.mg.perm.length_eq
        have h2 := flat_le z.T
        rw [hz.rws] at h2
        omega
      refine ex_frame (fun m' => (m' "rows" = some (.ref RA) ∧ m' "way" = some vW ∧ m' "counts" = some (.ref CA) ∧ m' "left" = some (.ref LA) ∧ m' "heap" = some (.ref HA) ∧ m' "joined" = some (.ref JA)) ∧
        m' "top" = some (.ref a0) ∧ m' "at" = some (.int T1.length ta) ∧ m' "row" = some (.ref as[T1.length]) ∧ m' "pair" = some (.ref (τ p))) ⟨⟨by ktr_rel, by ktr_rel, by ktr_rel, by ktr_rel, by ktr_rel, by ktr_rel⟩, by ktr_rel, by ktr_rel, by ktr_rel, by ktr_rel⟩ ?_
      clear z1 z2 z3 z4 z5 z6
      rintro mm ⟨⟨z1, z2, z3, z4, z5, z6⟩, z7, z8, z9, z10⟩
      -- joined.append(pair)
      refine ex_expr (Q := Led z.b (fr L mm :: ls JA (rr τ (z.done ++ [p])) :: ls HA z.hs :: ls LA (iv (z.lf.set T1.length ((r.length : Int), tl))) :: ls CA (iv (z.cs.set p (cc.1 + (T1.map fun t => (t.2.length : Int)).sum, tc))) :: σ)) ?_ ?_
      · refine tr_append (ι := Unit) (xs := rr τ z.done) (C := fun _ v => v = .ref (τ p)) (β' := fun _ => z.b) (σ1 := fun _ => fr L mm :: ls JA (rr τ z.done) :: ls HA z.hs :: ls LA (iv (z.lf.set T1.length ((r.length : Int), tl))) :: ls CA (iv (z.cs.set p (cc.1 + (T1.map fun t => (t.2.length : Int)).sum, tc))) :: σ)
          (ev_name (.head _) (by ktr_rel)) (.tail _ (.head _)) (Tr.mono (ev_name (v := .ref (τ p)) (.head _) (by ktr_rel)) fun v h q => ⟨(), q⟩) ?_
        rintro _ _ rfl
        have e : rr τ (z.done ++ [p]) = rr τ z.done ++ [.ref (τ p)] := by simp [rr]
        rw [e]
        exact tr_append1 (.tail .head) (by simp [rr]; omega)
      -- head = None
      refine ex_setv (v := .none) ev_none ?_
      have hA1 : hds val (sgnW way) 0 z.T = hds val (sgnW way) 0 T1 ++ (x0, y0) :: hds val (sgnW way) (T1.length + 1) T2 := by
        rw [eT, hds_app, hds, Nat.zero_add, ex0, ey0]
      have hmeas : ∀ q : List Nat, (((T1 ++ (q, r) :: T2).map fun t => t.2.length).sum) < ((z.T.map fun t => t.2.length).sum) := fun q => by
        rw [eT]; simp only [List.map_append, List.map_cons, List.sum_append, List.sum_cons, List.length_cons]; omega
      obtain ⟨_, _, hfs⟩ := W'.f14
      have hlhs : z.hs.length ≤ 1000 := by
        have h1 := hz.hk.length_eq
        have h2 := hds_len (val := val) (sgn := sgnW way) z.T 0
        have h3 := congrArg List.length hz.rws
        rw [List.length_map] at h1
        simp only [rowsOf, List.length_map] at h3
        omega
      rcases r with _ | ⟨p', r'⟩
      · refine ex_if (c := false) ?_ (fun h => by cases h) (fun _ => ex_end ?_)
        · refine (ts_gt (i := 0) (j := 0) ?_ ev_int).of (by simp)
          refine (ev_item (k := T1.length) (a := LA) (xs := iv (z.lf.set T1.length (((([] : List Nat).length : Nat) : Int), tl))) (ev_name (.head _) (by ktr_rel)) (ev_namei (.head _) (by ktr_rel)) (.inl (.tail _ (.tail _ (.tail _ (.head _))))) (by omega) ?_).mono fun v q => ⟨tl, q⟩
          rw [Int.toNat_natCast]; exact iv_get hlf'
        refine ex_ifG (S := fun c h => c = false ∧ ∃ ys, ((Value.ref a0 :: ys).Perm z.hs ∧ HpL (loW way (ltB z.b)) 0 ys) ∧ Led z.b (fr L (upd mm "head" .none) :: ls JA (rr τ (z.done ++ [p])) :: ls HA ys :: ls LA (iv (z.lf.set T1.length (((([] : List Nat).length : Nat) : Int), tl))) :: ls CA (iv (z.cs.set p (cc.1 + (T1.map fun t => (t.2.length : Int)).sum, tc))) :: σ) h) ?_ (Tr.and fun h => by cases h) (Tr.and fun _ => ?_)
        · refine tr_isCmp (R1 := fun v h => v = .ref a0 ∧ ∃ ys, ((Value.ref a0 :: ys).Perm z.hs ∧ HpL (loW way (ltB z.b)) 0 ys) ∧ Led z.b (fr L (upd mm "head" .none) :: ls JA (rr τ (z.done ++ [p])) :: ls HA ys :: ls LA (iv (z.lf.set T1.length (((([] : List Nat).length : Nat) : Int), tl))) :: ls CA (iv (z.cs.set p (cc.1 + (T1.map fun t => (t.2.length : Int)).sum, tc))) :: σ) h)
            (R2 := fun v u h => v = .ref a0 ∧ u = .ref a0 ∧ ∃ ys, ((Value.ref a0 :: ys).Perm z.hs ∧ HpL (loW way (ltB z.b)) 0 ys) ∧ Led z.b (fr L (upd mm "head" .none) :: ls JA (rr τ (z.done ++ [p])) :: ls HA ys :: ls LA (iv (z.lf.set T1.length (((([] : List Nat).length : Nat) : Int), tl))) :: ls CA (iv (z.cs.set p (cc.1 + (T1.map fun t => (t.2.length : Int)).sum, tc))) :: σ) h) ?_ ?_ ?_
          · refine tr_fn3 (ev_gl W'.g14) hfs (V1 := (· = .ref HA)) (V2 := (· = .none)) (V3 := IsI way) (ev_name (.head _) (by ktr_rel)) (ev_name (.head _) (by ktr_rel)) ((ev_name (.head _) (by ktr_rel)).mono fun v e => ⟨tw, e.trans eW'⟩) ?_
            rintro _ _ v3 rfl rfl e3
            refine Tr.pre (Tr.mono (nh_none (σ := fr L (upd mm "head" .none) :: ls JA (rr τ (z.done ++ [p])) :: ls LA (iv (z.lf.set T1.length (((([] : List Nat).length : Nat) : Int), tl))) :: ls CA (iv (z.cs.set p (cc.1 + (T1.map fun t => (t.2.length : Int)).sum, tc))) :: σ) W' hR' ord_way cmp_ok hz.hd e3 h00 hz.hp hlhs) ?_) fun h l => led_rot l
            rintro r h ⟨e, ys, hF, l⟩
            exact ⟨e, ys, hF, led_tor l⟩
          · intro v
            refine Tr.and fun e => Tr.ex fun ys => Tr.and fun hF => Tr.mono (ev_name (v := .ref a0) (.head _) (by ktr_rel)) ?_
            rintro u h ⟨e', l⟩
            exact ⟨e, e', ys, hF, l⟩
          · intro v u
            refine Tr.and fun e => Tr.and fun e' => Tr.ex fun ys => Tr.and fun hF => ?_
            subst e e'
            refine Tr.mono (tr_tne_self htop hR'.units) ?_
            rintro c h ⟨e, l⟩
            exact ⟨false, e, rfl, ys, hF, l⟩
        · refine ex_end (ex_ex fun ys => ex_and fun hF => ex_nil fun g l => ?_)
          refine ⟨⟨z.b, _, ys, _, _, _, T1 ++ (pre ++ [p], []) :: T2⟩, hmeas _, ?_, l⟩
          refine hz.step hok eT hleast hnd (.refl _) (by ktr_rel) (by ktr_rel) (by ktr_rel) (by ktr_rel) (by ktr_rel) (by ktr_rel) hcc ?_ (fun v hv => hz.hd v (hF.1.mem_iff.mp (.tail _ hv))) hF.2
          have h1 := (hF.1.map (keyOf z.b)).trans hz.hk
          rw [hA1, List.map_cons, ek] at h1
          have h2 := (h1.trans List.perm_middle).cons_inv
          rw [hds_app, hds, Nat.zero_add]
          exact h2
      · have hp'N : p' < N := hmem (pre ++ p :: p' :: r') (List.mem_of_getElem? erow) p' (by simp)
        obtain ⟨tq1, tq2, htq⟩ := hpairs p' hp'N
        have htq := htq.le hz.le
        refine ex_if (c := true) ?_ (fun _ => ?_) (fun h => by cases h)
        · refine (ts_gt (i := (((p' :: r').length : Nat) : Int)) (j := 0) ?_ ev_int).of (by simp)
          refine (ev_item (k := T1.length) (a := LA) (xs := iv (z.lf.set T1.length ((((p' :: r').length : Nat) : Int), tl))) (ev_name (.head _) (by ktr_rel)) (ev_namei (.head _) (by ktr_rel)) (.inl (.tail _ (.tail _ (.tail _ (.head _))))) (by omega) ?_).mono fun v q => ⟨tl, q⟩
          rw [Int.toNat_natCast]; exact iv_get hlf'
        -- head = (row[len(row) - left[at]][0], top[1])
        refine ex_setG (ι := Base × Addr × Value × Value) (C := fun x v => (x.2.2.1 = .int (val p') tq1) ∧ (x.2.2.2 = .int y0 u0) ∧ v = .ref x.2.1 ∧ TpB x.1 x.2.1 [x.2.2.1, x.2.2.2] ∧ z.b.le x.1) (β' := fun x => x.1)
          (σ1 := fun _ => ls JA (rr τ (z.done ++ [p])) :: ls HA z.hs :: ls LA (iv (z.lf.set T1.length ((((p' :: r').length : Nat) : Int), tl))) :: ls CA (iv (z.cs.set p (cc.1 + (T1.map fun t => (t.2.length : Int)).sum, tc))) :: σ) (tr_tup2 (V1 := (· = .int (val p') tq1)) (V2 := (· = .int y0 u0)) ?_ ?_) ?_
        · refine ev_titem (k := 0) (a := τ p') (xs := [.int (val p') tq1, .int p' tq2]) ?_ ev_int htq (by simp) (by decide) rfl
          refine ev_item (k := (pre.length + 1 : Nat)) (a := as[T1.length]) (xs := rr τ (pre ++ p :: p' :: r')) (ev_name (.head _) (by ktr_rel)) ?_ (.inr hrow) (by omega) ?_
          · refine (ev_sub (i := (rr τ (pre ++ p :: p' :: r')).length) (j := (((p' :: r').length : Nat) : Int)) (ev_len (ev_bl W'.bLen) (ev_name (.head _) (by ktr_rel)) (.inr hrow)) ?_).mono fun v q => q.of (by simp; omega)
            refine (ev_item (k := T1.length) (a := LA) (xs := iv (z.lf.set T1.length ((((p' :: r').length : Nat) : Int), tl))) (ev_name (.head _) (by ktr_rel)) (ev_namei (.head _) (by ktr_rel)) (.inl (.tail _ (.tail _ (.tail _ (.head _))))) (by omega) ?_).mono fun v q => ⟨tl, q⟩
            rw [Int.toNat_natCast]; exact iv_get hlf'
          · rw [Int.toNat_natCast]; simp [rr]
        · exact ev_titem (k := 1) (a := a0) (xs := [.int x0 t0, .int y0 u0]) (ev_name (.head _) (by ktr_rel)) ev_int htop (by simp) (by decide) rfl
        rintro ⟨b', a', w1, w2⟩ _ ⟨c1, c2, rfl, c4, c5⟩
        dsimp only at c1 c2 c4 c5 ⊢
        subst c1 c2
        refine ex_end ?_
        have hp' := hpl_le hz.hp hz.hd c5
        have hd' : ∀ v ∈ z.hs, Hd b' v := fun v hv => (hz.hd v hv).le c5
        have hSa : Hd b' (.ref a') := ⟨a', _, _, _, _, rfl, c4⟩
        have W'' := W'.le c5
        refine ex_ifG (S := fun c h => c = false ∧ ∃ ys, (ys.Perm (Value.ref a' :: r0) ∧ HpL (loW way (ltB b')) 0 ys) ∧ Led b' (fr L (upd (upd mm "head" .none) "head" (.ref a')) :: ls JA (rr τ (z.done ++ [p])) :: ls HA ys :: ls LA (iv (z.lf.set T1.length ((((p' :: r').length : Nat) : Int), tl))) :: ls CA (iv (z.cs.set p (cc.1 + (T1.map fun t => (t.2.length : Int)).sum, tc))) :: σ) h) ?_ (Tr.and fun h => by cases h) (Tr.and fun _ => ?_)
        · refine tr_isCmp (R1 := fun v h => v = .ref a0 ∧ ∃ ys, (ys.Perm (Value.ref a' :: r0) ∧ HpL (loW way (ltB b')) 0 ys) ∧ Led b' (fr L (upd (upd mm "head" .none) "head" (.ref a')) :: ls JA (rr τ (z.done ++ [p])) :: ls HA ys :: ls LA (iv (z.lf.set T1.length ((((p' :: r').length : Nat) : Int), tl))) :: ls CA (iv (z.cs.set p (cc.1 + (T1.map fun t => (t.2.length : Int)).sum, tc))) :: σ) h)
            (R2 := fun v u h => v = .ref a0 ∧ u = .ref a0 ∧ ∃ ys, (ys.Perm (Value.ref a' :: r0) ∧ HpL (loW way (ltB b')) 0 ys) ∧ Led b' (fr L (upd (upd mm "head" .none) "head" (.ref a')) :: ls JA (rr τ (z.done ++ [p])) :: ls HA ys :: ls LA (iv (z.lf.set T1.length ((((p' :: r').length : Nat) : Int), tl))) :: ls CA (iv (z.cs.set p (cc.1 + (T1.map fun t => (t.2.length : Int)).sum, tc))) :: σ) h) ?_ ?_ ?_
          · refine tr_fn3 (ev_gl W''.g14) (hfs.le c5) (V1 := (· = .ref HA)) (V2 := (· = .ref a')) (V3 := IsI way) (ev_name (.head _) (by ktr_rel)) (ev_name (.head _) (by ktr_rel)) ((ev_name (.head _) (by ktr_rel)).mono fun v e => ⟨tw, e.trans eW'⟩) ?_
            rintro _ _ v3 rfl rfl e3
            refine Tr.pre (Tr.mono (nh_some (σ := fr L (upd (upd mm "head" .none) "head" (.ref a')) :: ls JA (rr τ (z.done ++ [p])) :: ls LA (iv (z.lf.set T1.length ((((p' :: r').length : Nat) : Int), tl))) :: ls CA (iv (z.cs.set p (cc.1 + (T1.map fun t => (t.2.length : Int)).sum, tc))) :: σ) W'' hR' ord_way cmp_ok hd' hSa e3 ehs hp' hlhs) ?_) fun h l => led_rot l
            rintro r h ⟨e, ys, hF, l⟩
            exact ⟨e, ys, hF, led_tor l⟩
          · intro v
            refine Tr.and fun e => Tr.ex fun ys => Tr.and fun hF => Tr.mono (ev_name (v := .ref a0) (.head _) (by ktr_rel)) ?_
            rintro u h ⟨e', l⟩
            exact ⟨e, e', ys, hF, l⟩
          · intro v u
            refine Tr.and fun e => Tr.and fun e' => Tr.ex fun ys => Tr.and fun hF => ?_
            subst e e'
            refine Tr.mono (tr_tne_self (htop.le c5) hR'.units) ?_
            rintro c h ⟨e, l⟩
            exact ⟨false, e, rfl, ys, hF, l⟩
        · refine ex_end (ex_ex fun ys => ex_and fun hF => ex_nil fun g l => ?_)
          refine ⟨⟨b', _, ys, _, _, _, T1 ++ (pre ++ [p], p' :: r') :: T2⟩, hmeas _, ?_, l⟩
          have hsub : ∀ v ∈ r0, v ∈ z.hs := fun v hv => by rw [ehs]; exact .tail _ hv
          refine hz.step hok eT hleast hnd c5 (by ktr_rel) (by ktr_rel) (by ktr_rel) (by ktr_rel) (by ktr_rel) (by ktr_rel) hcc ?_ (fun v hv => ?_) hF.2
          · have h1 := hz.hk
            rw [hA1, ehs, List.map_cons, ek] at h1
            have h2 := (h1.trans List.perm_middle).cons_inv
            have h3 := hF.1.map (keyOf b')
            rw [List.map_cons, key_of c4, show r0.map (keyOf b') = r0.map (keyOf z.b) from List.map_congr_left fun v hv => (hz.hd v (hsub v hv)).key c5] at h3
            rw [hds_app, hds, Nat.zero_add, ← ey0]
            exact (h3.trans (h2.cons _)).trans List.perm_middle.symm
          · rcases List.mem_cons.mp (hF.1.mem_iff.mp hv) with rfl | hv
            · exact hSa
            · exact hd' v (hsub v hv)
    · refine ex_ex fun z => ex_and fun hz => ?_
      obtain ⟨hz, he⟩ := hz
      refine ex_ret (Tr.mono (ev_name (v := .ref JA) (.head _) hz.m6) ?_)
      rintro v h ⟨e, l⟩
      have hT : ∀ t ∈ z.T, t.2 = [] := by
        have := hz.hk
        rw [he] at this
        exact hds_nil z.T 0 this.symm.eq_nil
      have hperm := hz.mg.fin hT
      rw [hz.rws] at hperm
      have l' := l.tail.weak hz.le
      refine ⟨JA, z.done, z.cs, e, ⟨hz.mg.srt, hperm, hz.len, fun p c c0 q q0 => ?_⟩, ?_⟩
      · rw [hz.cnt p c c0 q q0]
        simp only [hperm.mem_iff]
      · exact (led_swap (led_swap l').tail).tail
    · intro g l
      refine ⟨⟨hbb, by ktr_rel, by ktr_rel, by ktr_rel, by ktr_rel, by ktr_rel, by ktr_rel, rowsOf_start R, .start R, ?_, ?_, fun v hv => ihd v (hyp.mem_iff.mp hv), hyh, rfl, ?_⟩, l⟩
      · rw [elf, List.map_map]; rfl
      · rw [← ikey]; exact hyp.map _
      · intro p c c0 q q0
        rw [q] at q0; cases q0; simp
end

section
variable {prog : Program} {w : World} {A : Around} {env : Env} {β β' : Base} {σ σ' : List It} {m : Str → Option Value} {rest : List Stmt}

def cellIts (cs : List (Str × Addr)) (cm : Str → Option Value) : List It := cs.map fun nc => cl nc.2 (cm nc.1)

theorem led_cells {s s' : Shared} {L : Addr} {cs : List (Str × Addr)} {cm : Str → Option Value} (hp : Led β σ s.heap) (eL : L = s.heap.objs.size) (x : InCallC s L m cs cm s') (hlk : ∀ nc ∈ cs, cs.lookup nc.1 = some nc.2) : Led β (fr L m :: (cellIts cs cm ++ σ)) s'.heap := by
  have q := hp.keeps x.toInCall.keep
  have hab : ∀ nc ∈ cs, L < nc.2 := fun nc h => x.above nc.1 nc.2 h
  refine ⟨q.kn, fun i hi => ?_, fun i hi => ?_, ?_⟩
  · rcases List.mem_cons.mp hi with rfl | hi
    · obtain ⟨o, es, ep, e, r⟩ := x.toInCall.ns; exact ⟨o, e, es, ep, r⟩
    · rcases List.mem_append.mp hi with hi | hi
      · obtain ⟨nc, h, rfl⟩ := List.mem_map.mp hi
        exact x.cell nc.1 nc.2 (hlk nc h)
      · exact q.own i hi
  · have none_of : ∀ a, s.heap.objs.size ≤ a → β a = none := fun a ha => by
      cases e : β a with
      | none => rfl
      | some o => exact absurd (Heap.lt_size (hp.kn _ _ e)) (Nat.not_lt.mpr ha)
    rcases List.mem_cons.mp hi with rfl | hi
    · exact none_of _ (Nat.le_of_eq eL.symm)
    · rcases List.mem_append.mp hi with hi | hi
      · obtain ⟨nc, h, rfl⟩ := List.mem_map.mp hi
        exact none_of _ (Nat.le_of_lt (eL ▸ hab nc h))
      · exact q.ap i hi
  · rw [List.map_cons, List.map_append, List.nodup_cons, List.nodup_append]
    refine ⟨fun z => ?_, ?_, q.nd, fun a ha b hb => ?_⟩
    · rcases List.mem_append.mp z with z | z
      · obtain ⟨i, hi, e⟩ := List.mem_map.mp z
        obtain ⟨nc, h, rfl⟩ := List.mem_map.mp hi
        have h1 := hab nc h
        have e : nc.2 = L := e
        rw [e] at h1
        exact Nat.lt_irrefl _ h1
      · obtain ⟨i, hi, e⟩ := List.mem_map.mp z
        have h1 := hp.lt hi
        have e : i.a = L := e
        rw [e, eL] at h1
        exact Nat.lt_irrefl _ h1
    · unfold cellIts
      rw [List.map_map]
      refine (List.pairwise_map.mpr ?_ : List.Pairwise _ _)
      exact x.apart
    · obtain ⟨i, hi, rfl⟩ := List.mem_map.mp ha
      obtain ⟨nc, h, rfl⟩ := List.mem_map.mp hi
      obtain ⟨j, hj, rfl⟩ := List.mem_map.mp hb
      have h1 := hab nc h
      have h2 := hp.lt hj
      rw [eL] at h1
      exact (Nat.ne_of_lt (Nat.lt_trans h2 h1)).symm

theorem tr_funC {k a j : Nat} {args : List Value} {binds : List (Str × Value)} {S : Value → Heap → Prop} (F : Fn β a k) (hn : NoLim β) (hR : Rm (j + 1) A)
    (hbind : ∀ pm cd, bindArgs (fdOf k pm cd) ⟨args, []⟩ = pure binds) (hbody : ∀ pm cd, (fdOf k pm cd).body = .stmts (bodyOf k)) (hclo : ∀ pm cd, (fdOf k pm cd).closure = [])
    (hsc : (!(fdOf k .none .none).scope.isCoroutine && !(fdOf k .none .none).scope.isGenerator && decide ((fdOf k .none .none).scope.kind = .function)) = true)
    (hkind : ∀ n, ∀ x ∈ binds, (fdOf k .none .none).scope.names.lookup x.1 = some .local ∨ ((fdOf k .none .none).scope.names.lookup x.1 = some .cell ∧ ((cellsFrom n (fdOf k .none .none).scope.names []).lookup x.1).isSome = true))
    (hlk : ∀ L pm cd, ∀ nc ∈ (callEnvC (fdOf k pm cd) L a).cells, (callEnvC (fdOf k pm cd) L a).cells.lookup nc.1 = some nc.2)
    (h : ∀ L pm cd A', Rm j A' → Ex prog w A' (callEnvC (fdOf k pm cd) L a) (bodyOf k)
      (Led β (fr L (bindL (callEnvC (fdOf k pm cd) L a).kindOf binds fun _ => none) :: (cellIts (callEnvC (fdOf k pm cd) L a).cells (bindC (callEnvC (fdOf k pm cd) L a).kindOf binds fun _ => none) ++ σ))) (fun f g => S (match f with | .ret v => v | _ => .none) g)) :
    Tr (model prog w) A (call (.ref a) args) (Led β σ) S := fun s hp => by
  obtain ⟨pm, cd, ⟨o, ho, hd⟩, c, oc, vs, t, hc, hoc, hdc, hvs⟩ := F
  obtain ⟨mc, hmc, hnone⟩ := hn
  simp only [Bool.and_eq_true, Bool.not_eq_true', decide_eq_true_eq] at hsc
  obtain ⟨⟨h2, h3⟩, h4⟩ := hsc
  have e := fdOf_scope k pm cd .none .none
  refine wpAny_call (codeAny_call_cells hR.depth (hp.kn _ _ ho) hd ⟨mc, hp.nsB hmc, hnone⟩ ⟨c, oc, vs, t, hc, hp.kn _ _ hoc, hdc, hvs⟩ (hbody pm cd) (hbind pm cd) (hclo pm cd) (by rw [e]; exact hkind _) (fun s₁ x => ?_) (by rw [e]; exact h2) (by rw [e]; exact h3) (by rw [e]; exact h4))
  have hp' := led_cells hp rfl x (hlk _ pm cd)
  have hs : Sm s s₁ := by obtain ⟨h', tk, rfl⟩ := x.toInCall.same; exact ⟨rfl, rfl⟩
  refine wpAny_mono (Tr.use (h s.heap.objs.size pm cd _ hR.up) (Q := fun f s' => Sm s s' ∧ S (match f with | .ret v => v | _ => .none) s'.heap) (E := fun _ _ => False) hp' fun f s1 m1 r1 => ⟨hs.trans m1, r1⟩) (fun _ _ q => q) fun _ _ q => q.elim

/-- [one for one in .. if ..]: how long it is -/
theorem count_comp {iter cond : Expr} {p1 p2 pos : Pos} {scope : Scope} {cl : List (Str × Addr)} {n : Nat} {V : Nat → Value → Prop} (src : Src prog w A env β σ iter n V) (c : Nat → Bool) (hn : n ≤ 1000)
    (hcond : ∀ C i j k v β' m', k < n → V k v → β.le β' → m' "one" = some v → Ts prog w A (compEnvC scope cl C env) β' (fr C m' :: i :: j :: σ) cond (c k))
    (hk : ∀ C, (compEnvC scope cl C env).scope.kind = .function) (hl : ∀ C, (compEnvC scope cl C env).kindOf "one" = some .local) (hs : ∀ x, foldedSetIterable iter env x = pure x) (hclos : closureFor scope env = pure cl) (hkind : scope.kind = .function)
    (hnames : ∀ x ∈ scope.names, x.2 = .local → scope.names.lookup x.1 = some .local) (hcell : ∀ x ∈ scope.names, x.2 ≠ .cell) :
    Tr (model prog w) A (eval (.ListComp (.Name "one" p1) [⟨.Name "one" p2, iter, [cond], 0⟩] scope pos) env) (Led β σ) (fun v h => ∃ a xs, v = .ref a ∧ xs.length = (List.range n).countP c ∧ Led β (ls a xs :: σ) h) := by
  refine Tr.mono (tr_comp (n := n) (cl := cl) (Acc := fun k ys _ => ys.length = (List.range k).countP c) {
    V := V
    cnd := fun k _ => c k
    G := fun k v m' => m' "one" = some v
    src := src
    hn := hn
    h0 := fun _ _ => rfl
    hasg := fun C i j k v β' m hk' hv hb => Tr.mono (tr_assignN (tr_store (.head (σ := i :: j :: σ)) (hk C) (hl C))) fun _ h l => ⟨_, upd_self, l⟩
    htest := fun C i j k v β' m' hk' hv hb g s hp => wpAny_tests_one (Tr.use (hcond C i j k v β' m' hk' hv hb g) hp fun b s' ms q => ⟨ms, q⟩)
    hskip := fun k v ys β' hk' hv hb acc h => by rw [List.range_succ, List.countP_append, acc]; simp [h]
    helt := fun C i j k v ys β' m' hk' hv hb acc g h => Tr.mono (ev_name (.head _) g (hk C) (hl C)) fun y h' q => ⟨β', .refl _, by rw [List.length_append, acc, List.range_succ, List.countP_append]; simp [h], q.2⟩
    hs := hs
    hclos := hclos
    hkind := hkind
    hnames := hnames
    hcell := hcell }) ?_
  rintro v h ⟨D, ys, β', e, hb, acc, l⟩
  exact ⟨D, ys, e, acc, l.weak hb⟩
end


structure OSt where
  b : Base
  m : Str → Option Value
  c : Option Value
  os : List Value

/-- a list of marks -/
def MarksAre (mk : Nat → Int) (ms : List (Int × Tok)) : Prop := ∀ (i : Nat) (x : Int × Tok), ms[i]? = some x → x.1 = mk i

section
variable {prog : Program} {w : World} {A : Around} {β : Base} {σ : List It}

theorem order_ok {PA MA : Addr} {τ : Nat → Addr} {mk : Nat → Int} {ms : List (Int × Tok)} {N : Nat} (W : Wd β) (hR : Rm 2 A) (hpa : LsB β PA (rr τ (List.range N))) (hma : LsB β MA (iv ms)) (hms : ms.length = N) (hmk : MarksAre mk ms) :
    Tr (model prog w) A (call (.ref 96) [.ref PA, .ref MA]) (Led β σ) (fun r h => ∃ O os, r = .ref O ∧ (os.length = N ∧ ∀ p, p < N → os[rankOf mk N p]? = some (.ref (τ p))) ∧ Led β (ls O os :: σ) h) := by
  have hNl : N ≤ 1000 := by have := hpa.1; simpa using this
  refine tr_funC (binds := [(("pairs" : Str), .ref PA), (("marks" : Str), .ref MA)]) W.f13 W.nolim hR (fun _ _ => rfl) (fun _ _ => rfl) (fun _ _ => rfl) (by decide +kernel) ?_ ?_ fun L pm cd A' hR' => ?_
  · intro n x hx
    rcases List.mem_cons.mp hx with rfl | hx
    · exact .inl rfl
    · rw [List.mem_singleton.mp hx]; exact .inr ⟨rfl, rfl⟩
  · intro L pm cd nc h
    rcases List.mem_cons.mp (show nc ∈ [(("place" : Str), L + 2), (("marks" : Str), L + 1)] from h) with rfl | h
    · rfl
    · rw [List.mem_singleton.mp h]; rfl
  have hA := hR'.1
  have m1 : bindL (callEnvC (fdOf 13 pm cd) L 96).kindOf [(("pairs" : Str), Value.ref PA), (("marks" : Str), Value.ref MA)] (fun _ => none) "pairs" = some (.ref PA) := rfl
  refine Ex.pre (P := Led β (fr L (bindL (callEnvC (fdOf 13 pm cd) L 96).kindOf [(("pairs" : Str), Value.ref PA), (("marks" : Str), Value.ref MA)] (fun _ => none)) :: cl (L + 2) none :: cl (L + 1) (some (.ref MA)) :: σ)) ?_ (fun g l => l)
  generalize bindL (callEnvC (fdOf 13 pm cd) L 96).kindOf [(("pairs" : Str), Value.ref PA), (("marks" : Str), Value.ref MA)] (fun _ => none) = m at m1
  -- order = [None] * len(pairs)
  refine ex_setG (m := m) (ι := Addr) (C := fun a v => v = .ref a) (β' := fun _ => β) (σ1 := fun a => cl (L + 2) none :: cl (L + 1) (some (.ref MA)) :: ls a (List.replicate N .none) :: σ) ?_ ?_
  · refine tr_bin (tr_list1 (V := (· = .none)) ev_none) (R2 := fun a b h => ∃ c t, a = .ref c ∧ b = .int N t ∧ Led β (ls c [.none] :: fr L m :: cl (L + 2) none :: cl (L + 1) (some (.ref MA)) :: σ) h) ?_ ?_
    · intro a
      refine Tr.ex fun x => Tr.ex fun c => Tr.and fun e1 => Tr.and fun e2 => ?_
      subst e1 e2
      refine Tr.mono (ev_len (ev_bl W.bLen) (ev_name (.tail _ (.head _)) m1) (.inr hpa)) ?_
      rintro v h ⟨⟨t, e⟩, l⟩
      refine ⟨c, t, rfl, by rw [e]; simp, l⟩
    · intro a b
      refine Tr.ex fun c => Tr.ex fun t => Tr.and fun e1 => Tr.and fun e2 => ?_
      subst e1 e2
      refine Tr.mono (tr_lmul (.head _) (by omega) (by omega)) ?_
      rintro v h ⟨c', e, l⟩
      refine ⟨c', e, ?_⟩
      have l2 := (led_swap l).tail
      rw [Int.toNat_natCast] at l2
      exact l2.perm ((List.Perm.swap _ _ _).trans (((List.Perm.swap _ _ _).trans ((List.Perm.swap _ _ _).cons _)).cons _))
  rintro OA _ rfl
  refine ex_forC (ι := OSt) (n := N) (c := L + 2) (src_range hA (ev_bl W.bRange) ((ev_len (ev_bl W.bLen) (ev_name (.head _) (by ktr_rel)) (.inr hpa)).mono fun v q => q.of (by simp)) hNl) rfl
    (fun y => y.b) (fun y => y.m) (fun y => y.c) (fun y => cl (L + 1) (some (.ref MA)) :: ls OA y.os :: σ)
    (fun k y => (y.m "pairs" = some (.ref PA) ∧ y.m "order" = some (.ref OA)) ∧ y.os.length = N ∧ ∀ p, p < k → y.os[rankOf mk N p]? = some (.ref (τ p))) ?_ ?_ ?_
  · intro β' hb
    refine ⟨⟨β', _, none, List.replicate N .none⟩, rfl, rfl, rfl, rfl, ?_, by simp, fun p hp => absurd hp (Nat.not_lt_zero _)⟩
    exact ⟨by ktr_rel, by ktr_rel⟩
  · intro k y v i hk hv hb ⟨⟨i1, i2⟩, ilen, iok⟩
    obtain ⟨tv, rfl⟩ := hv
    have W' := W.le hb
    have hma' := hma.le hb
    have hkm : k < ms.length := by omega
    obtain ⟨tk, hmsk⟩ : ∃ t, ms[k]? = some (mk k, t) := by
      have e := List.getElem?_eq_getElem hkm
      have := hmk k _ e
      exact ⟨ms[k].2, by rw [e, ← this]⟩
    -- less
    refine ex_seti (i := ((List.range N).countP (fun q => decide (mk q < mk k)) : Nat)) ?_ fun t1 => ?_
    · refine ev_lenN (ev_bl W'.bLen) (Tr.mono (count_comp (cl := [(("place" : Str), L + 2), (("marks" : Str), L + 1)]) (src_list hA (ev_cell (.tail _ (.tail _ (.tail _ (.head _)))) rfl) hma') (fun q => decide (mk q < mk k)) hma'.1 ?_ (fun _ => rfl) (fun _ => rfl) (fun _ => rfl) rfl rfl (by decide +kernel) (by decide +kernel)) ?_)
      · intro C i' j' k' v β2 m' hk' hv hb2 hone
        obtain ⟨x, hx⟩ : ∃ x, ms[k']? = some x := ⟨_, List.getElem?_eq_getElem (by rw [iv_len] at hk'; exact hk')⟩
        rw [iv_get hx] at hv
        cases hv
        rw [hmk k' x hx] at hone
        refine ts_lt (ev_namei (.head _) hone) ?_
        refine (ev_item (k := k) (ev_cell (.tail _ (.tail _ (.tail _ (.tail _ (.tail _ (.tail _ (.head _))))))) rfl) ((ev_cell (.tail _ (.tail _ (.tail _ (.tail _ (.head _))))) rfl).mono fun v e => ⟨tv, e⟩) (.inr (hma'.le hb2)) (by omega) ?_).mono fun v e => ⟨tk, e⟩
        rw [Int.toNat_natCast]; exact iv_get hmsk
      · rintro v h ⟨a, xs, e, q, l⟩
        exact ⟨a, xs, e, by rw [q, iv_len, hms], l⟩
    refine ex_seti (i := ((List.range k).countP (fun q => decide (mk q = mk k)) : Nat)) ?_ fun t2 => ?_
    · refine ev_lenN (ev_bl W'.bLen) (Tr.mono (count_comp (cl := [(("place" : Str), L + 2), (("marks" : Str), L + 1)]) (src_made (xs := (iv ms).take k) hA (tr_take (k := k) (ev_cell (.tail _ (.tail _ (.tail _ (.head _)))) rfl) (.inr hma') ((ev_cell (.tail _ (.head _)) rfl).mono fun v e => ⟨tv, e⟩))) (fun q => decide (mk q = mk k)) (by rw [List.length_take, iv_len]; omega) ?_ (fun _ => rfl) (fun _ => rfl) (fun _ => rfl) rfl rfl (by decide +kernel) (by decide +kernel)) ?_)
      · intro C i' j' k' v β2 m' hk' hv hb2 hone
        have hk2 : k' < k := by rw [List.length_take] at hk'; omega
        rw [List.getElem?_take_of_lt hk2] at hv
        obtain ⟨x, hx⟩ : ∃ x, ms[k']? = some x := ⟨_, List.getElem?_eq_getElem (by omega)⟩
        rw [iv_get hx] at hv
        cases hv
        rw [hmk k' x hx] at hone
        refine (ts_eq (i := mk k') (j := mk k) (ev_namei (.head _) hone) ?_).of (by by_cases h : mk k' = mk k <;> simp [h])
        refine (ev_item (k := k) (ev_cell (.tail _ (.tail _ (.tail _ (.tail _ (.tail _ (.tail _ (.head _))))))) rfl) ((ev_cell (.tail _ (.tail _ (.tail _ (.tail _ (.head _))))) rfl).mono fun v e => ⟨tv, e⟩) (.inr (hma'.le hb2)) (by omega) ?_).mono fun v e => ⟨tk, e⟩
        rw [Int.toNat_natCast]; exact iv_get hmsk
      · rintro v h ⟨a, xs, e, q, l⟩
        refine ⟨a, xs, e, ?_, l⟩
        rw [q, List.length_take, iv_len, Nat.min_eq_left (by omega)]
    have hrk := rank_lt (mk := mk) hk
    refine ex_setitemv (a := OA) (k := (rankOf mk N k : Nat)) (xs := y.os) (v := .ref (τ k)) ?_ ?_ ?_ (.tail (.tail (.tail (.tail .head)))) (by omega) (by omega) ?_
    · refine ev_item (k := k) (ev_name (.head _) (by ktr_rel)) ((ev_cell (.tail _ (.head _)) rfl).mono fun v e => ⟨tv, e⟩) (.inr (hpa.le hb)) (by omega) ?_
      rw [Int.toNat_natCast]; simp [rr, hk]
    · exact ev_name (.head _) (by ktr_rel)
    · exact (ev_add (ev_namei (.head _) (by ktr_rel)) (ev_namei (.head _) (by ktr_rel))).mono fun v q => q.of (by unfold rankOf; omega)
    rw [Int.toNat_natCast]
    refine ex_nil fun g l => ?_
    refine ⟨.inl rfl, ⟨y.b, _, _, y.os.set (rankOf mk N k) (.ref (τ k))⟩, .refl _, ?_, l⟩
    refine ⟨⟨by ktr_rel, by ktr_rel⟩, by simpa using ilen, fun p hp => ?_⟩
    dsimp only
    by_cases e : p = k
    · subst e; rw [List.getElem?_set_self (by omega)]
    · rw [List.getElem?_set_ne (rank_inj hk (by omega) fun z => e z.symm)]
      exact iok p (by omega)
  · rintro y hb ⟨⟨i1, i2⟩, ilen, iok⟩
    refine ex_ret (Tr.mono (ev_name (v := .ref OA) (.head _) i2) ?_)
    rintro v h ⟨e, l⟩
    exact ⟨OA, y.os, e, ⟨ilen, iok⟩, (l.tail.tail.tail).weak hb⟩
end

section
variable {prog : Program} {w : World} {A : Around} {env : Env} {β β' : Base} {σ σ' : List It} {m : Str → Option Value} {rest : List Stmt} {P Q : Heap → Prop} {R : Flow → Heap → Prop} {V1 : Value → Prop}

theorem tr_assign2 {x y : Str} {px py pos : Pos} {k : Nat} {a : Addr} {v u : Value} (hA : A.handled = none) (ht : TpB β a [v, u]) (hk : env.scope.kind = .function) (hx : env.kindOf x = some .local) (hy : env.kindOf y = some .local) :
    Tr (model prog w) A (assign (.Tuple [.Name x px, .Name y py] k pos) env (.ref a)) (Led β (fr env.locals m :: σ)) (fun _ h => Led β (fr env.locals (upd (upd m x v) y u) :: σ) h) := fun s hp => by
  refine assign_Tuple_tuple hA (hp.isTup ht) rfl rfl fun h' he => ?_
  have hp' : Led β (fr env.locals m :: σ) h' := hp.keeps fun b o e => he b o (Nat.ne_of_lt (Heap.lt_size e)) e
  show wpAny _ _ (do holding [u] (assign (.Name x px) env v); assignInOrder [assign (.Name y py) env] [u]) _ _ _
  refine wpAny_bind (wpAny_holding (Tr.use (tr_assignN (tr_store (.head (σ := σ)) hk hx)) (s := { s with heap := h' }) hp' fun _ s1 m1 r1 => ?_))
  show wpAny _ _ (do holding [] (assign (.Name y py) env u); assignInOrder [] []) _ _ _
  refine wpAny_bind (wpAny_holding (Tr.use (tr_assignN (tr_store (.head (σ := σ)) hk hy)) r1 fun _ s2 m2 r2 => ?_))
  exact wpAny_pure ⟨Sm.trans ⟨m1.1, m1.2⟩ m2, r2⟩

theorem tr_valCmp {l r : Expr} {op : CmpOp} {pos : Pos} {R1 : Value → Heap → Prop} {R2 : Value → Value → Heap → Prop} {S : Value → Heap → Prop} (h1 : Tr (model prog w) A (eval l env) P R1) (h2 : ∀ a, Tr (model prog w) A (eval r env) (R1 a) (R2 a))
    (h3 : ∀ a b, Tr (model prog w) A (compareOp op a b) (R2 a b) S) (hm : behindInMarks op r = false := by with_unfolding_all rfl) :
    Tr (model prog w) A (eval (.Compare l [op] [r] pos) env) P S := fun s hp =>
  wpAny_Compare1 (Tr.use h1 hp fun a _ m1 r1 => Tr.use (h2 a) r1 fun b _ m2 r2 => Tr.use (h3 a b) r2 fun v _ m3 r3 => ⟨(m1.trans m2).trans m3, r3⟩) hm

/-- a list that is not changed any more -/
theorem freeze_ls {a : Addr} {xs : List Value} {h : Heap} (l : Led β (ls a xs :: σ) h) : ∃ β', β.le β' ∧ LsB β' a xs ∧ Led β' σ h := by
  have hn := l.ap _ (.head _)
  obtain ⟨o, ⟨hlen, n, rfl⟩, _, l'⟩ := l.freeze
  exact ⟨_, Base.le_add hn, ⟨hlen, n, Base.add_self⟩, l'⟩
theorem ex_freeze {a : Addr} {xs : List Value} {ss : List Stmt} (k : ∀ β', β.le β' → LsB β' a xs → Ex prog w A env ss (Led β' σ) R) : Ex prog w A env ss (Led β (ls a xs :: σ)) R := fun s hp => by
  obtain ⟨β', hb, hl, l⟩ := freeze_ls hp
  exact k β' hb hl s l

/-- x = e, x a cell, e a plain value -/
theorem ex_setCi {x : Str} {px pos : Pos} {e : Expr} {c : Addr} {v₀ : Option Value} {i : Int} {σ2 : Tok → List It} (hc : env.cells.lookup x = some c) (he : Ev prog w A env β σ e (IsI i)) (u : ∀ t, UpI (cl c v₀) (cl c (some (.int i t))) σ (σ2 t))
    (k : ∀ t, Ex prog w A env rest (Led β (σ2 t)) R)
    (hk : env.scope.kind = .function := by rfl) (hl : env.kindOf x = some .cell := by rfl) (hs : swapsWith e (some (.Name x px)) pos.line env = pure false := by rfl) :
    Ex prog w A env (.Assign [.Name x px] e pos :: rest) (Led β σ) R :=
  ex_assign' he (fun v => Tr.and fun ⟨t, hv⟩ => by subst hv; exact Tr.mono (tr_storeC hc (u t) hk hl) fun _ g l => wp_of (k t) l) hs
end


def wayOf (ns : List (Int × Tok)) : Int := match ns with
  | [] => 1
  | x :: _ => x.1.fmod 2

/-- the loop over the places -/
structure LSt where
  b : Base
  m : Str → Option Value
  c : Option Value
  pa : Addr
  as : List Addr
  R : List (List Nat)
  cs : List (Int × Tok)
def cntOf (cs : List (Int × Tok)) (p : Nat) : Int := (cs.getD p (0, 0)).1
structure LInv (PR CA : Addr) (τ : Nat → Addr) (mk : Nat → Int) (N k : Nat) (y : LSt) : Prop where
  m1 : y.m "pairs" = some (.ref PR)
  m2 : y.m "counts" = some (.ref CA)
  m3 : y.m "pile" = some (.ref y.pa)
  rows : RowsAt y.b τ y.as y.R
  pl : Pl mk (cntOf y.cs) 0 y.R
  len : y.R.flatten.length = k
  cs : y.cs.length = N
  zero : ∀ p, k ≤ p → cntOf y.cs p = 0

section
variable {prog : Program} {w : World} {A : Around} {β : Base} {σ : List It}

theorem cnt_of {cs : List (Int × Tok)} {p : Nat} {c : Int × Tok} (h : cs[p]? = some c) : cntOf cs p = c.1 := by unfold cntOf; rw [List.getD_eq_getElem?_getD, h]; rfl
theorem cnt_out {cs : List (Int × Tok)} {p : Nat} (h : cs.length ≤ p) : cntOf cs p = 0 := by unfold cntOf; rw [List.getD_eq_getElem?_getD, List.getElem?_eq_none h]; rfl
theorem cnt_add {mk : Nat → Int} {R : List (List Nat)} {cs cs' : List (Int × Tok)} {done : List Nat} (o : JOut mk R cs cs' done) {p : Nat} (hp : p < cs.length) : cntOf cs' p = cntOf cs p + (if p ∈ R.flatten then (addOf mk R p : Int) else 0) := by
  have h1 : cs[p]? = some cs[p] := List.getElem?_eq_getElem hp
  have h2 : cs'[p]? = some (cs'[p]'(by rw [o.len]; exact hp)) := List.getElem?_eq_getElem _
  rw [cnt_of h1, cnt_of h2]
  exact o.cnt p _ _ h2 h1

theorem join_step {mk : Nat → Int} {R : List (List Nat)} {cs cs' : List (Int × Tok)} {N k d : Nat} {done : List Nat} (hpl : Pl mk (cntOf cs) 0 R) (hlen : R.flatten.length = k) (hkN : k ≤ N) (hcs : cs.length = N) (hz : ∀ p, k ≤ p → cntOf cs p = 0)
    (hd : d < R.length) (o : JOut mk (R.drop d) cs cs' done) : Pl mk (cntOf cs') 0 (R.take d ++ [done]) ∧ (R.take d ++ [done]).flatten.length = k ∧ (∀ p, k ≤ p → cntOf cs' p = 0) ∧ done ≠ [] := by
  have eR : R = R.take d ++ R.drop d := (List.take_append_drop d R).symm
  have hpl' := hpl
  rw [eR, Pl.app] at hpl'
  obtain ⟨p1, p2⟩ := hpl'
  have hl : (R.take d).flatten.length + (R.drop d).flatten.length = k := by
    rw [← hlen]
    conv => rhs; rw [eR]
    rw [List.flatten_append, List.length_append]
  have hdl := o.perm.length_eq
  have p3 : Pl mk (cntOf cs') (0 + (R.take d).flatten.length) [done] := by
    refine p2.join (fun e => ?_) o.srt o.perm fun p hp => ?_
    · have : (R.drop d).length = 0 := by rw [e]; rfl
      rw [List.length_drop] at this; omega
    · have hm := p2.mem hp
      rw [cnt_add o (by omega), if_pos hp]
  refine ⟨?_, ?_, fun p hp => ?_, p3.1⟩
  · rw [Pl.app]
    refine ⟨p1.congr fun p hp => ?_, p3⟩
    have hm := p1.mem hp
    have : p ∉ (R.drop d).flatten := fun h => by have := p2.mem h; omega
    rw [cnt_add o (by omega), if_neg this]; omega
  · simp only [List.flatten_append, List.length_append, List.flatten_cons, List.flatten_nil, List.length_nil]
    omega
  · by_cases hpN : p < N
    · have : p ∉ (R.drop d).flatten := fun h => by have := p2.mem h; omega
      rw [cnt_add o (by omega), if_neg this, hz p hp]; rfl
    · exact cnt_out (by rw [o.len]; omega)
theorem app_step {mk : Nat → Int} {R : List (List Nat)} {cnt : Nat → Int} {k : Nat} (hpl : Pl mk cnt 0 R) (hlen : R.flatten.length = k) (hz : cnt k = 0) : Pl mk cnt 0 (R ++ [[k]]) ∧ (R ++ [[k]]).flatten.length = k + 1 := by
  refine ⟨Pl.app.mpr ⟨hpl, ?_⟩, by simp [hlen]⟩
  rw [hlen, Nat.zero_add]
  refine ⟨by simp, by simp, by simp, fun p hp => ?_, trivial⟩
  rw [List.mem_singleton.mp hp, hz]; simp
theorem RowsAt.snoc {τ : Nat → Addr} {as : List Addr} {R : List (List Nat)} {a : Addr} {r : List Nat} (h : RowsAt β τ as R) (ha : LsB β a (rr τ r)) (hr : r ≠ []) : RowsAt β τ (as ++ [a]) (R ++ [r]) := by
  refine ⟨by simp [h.len], fun j b u hb hu => ?_, fun u hu => ?_⟩
  · by_cases hj : j < as.length
    · rw [List.getElem?_append_left hj] at hb
      rw [List.getElem?_append_left (by rw [← h.len]; exact hj)] at hu
      exact h.row j b u hb hu
    · have e : j = as.length := by
        have := (List.getElem?_eq_some_iff.mp hb).1
        simp at this; omega
      subst e
      rw [List.getElem?_append_right (Nat.le_refl _)] at hb
      rw [List.getElem?_append_right (by rw [h.len]; exact Nat.le_refl _)] at hu
      simp [h.len] at hb hu
      subst hb hu
      exact ha
  · rcases List.mem_append.mp hu with hu | hu
    · exact h.ne u hu
    · rw [List.mem_singleton.mp hu]; exact hr
theorem RowsAt.take {τ : Nat → Addr} {as : List Addr} {R : List (List Nat)} (h : RowsAt β τ as R) (d : Nat) : RowsAt β τ (as.take d) (R.take d) := by
  refine ⟨by simp [h.len], fun j b u hb hu => ?_, fun u hu => h.ne u (List.mem_of_mem_take hu)⟩
  rw [List.getElem?_take] at hb hu
  by_cases hj : j < d
  · rw [if_pos hj] at hb hu; exact h.row j b u hb hu
  · rw [if_neg hj] at hb; cases hb
theorem RowsAt.drop {τ : Nat → Addr} {as : List Addr} {R : List (List Nat)} (h : RowsAt β τ as R) (d : Nat) : RowsAt β τ (as.drop d) (R.drop d) := by
  refine ⟨by simp [h.len], fun j b u hb hu => ?_, fun u hu => h.ne u (List.mem_of_mem_drop hu)⟩
  rw [List.getElem?_drop] at hb hu
  exact h.row _ b u hb hu
theorem len_flat : ∀ {R : List (List Nat)}, (∀ r ∈ R, r ≠ []) → R.length ≤ R.flatten.length
  | [], _ => Nat.le_refl _
  | r :: R, h => by
    have h1 := len_flat fun u hu => h u (.tail _ hu)
    have h2 : 0 < r.length := List.length_pos_iff.mpr (h r (.head _))
    simp only [List.flatten_cons, List.length_append, List.length_cons]
    omega
theorem led_mid {x y : It} {pre post : List It} {h : Heap} (l : Led β (x :: (pre ++ y :: post)) h) : Led β (pre ++ x :: post) h := by
  have l1 : Led β (y :: (x :: pre ++ post)) h := l.perm (List.perm_middle (l₁ := x :: pre))
  exact l1.tail.perm List.perm_middle.symm
theorem led_last {x : It} {pre : List It} {h : Heap} (l : Led β (pre ++ [x]) h) : Led β (x :: pre) h := l.perm (List.perm_append_comm (l₁ := pre) (l₂ := [x]))
theorem led_first {x : It} {pre : List It} {h : Heap} (l : Led β (x :: pre) h) : Led β (pre ++ [x]) h := l.perm (List.perm_append_comm (l₁ := [x]) (l₂ := pre))

end


structure DSt where
  b : Base
  m : Str → Option Value
  c : Option Value
  ds : List (Int × Tok)
section
variable {prog : Program} {w : World} {A : Around} {β : Base} {σ : List It}

theorem law5 {L CL PR CA TA MA : Addr} {pm cd : Value} {m : Str → Option Value} {way : Int} {tw : Tok} {τ : Nat → Addr} {mk : Nat → Int} {c : Option Value} {done : List Nat} {cs ms : List (Int × Tok)} {N : Nat} (W : Wd β) (hR : Rm 5 A)
    (hN : N ≤ 24) (hpr : LsB β PR (rr τ (List.range N))) (m1 : m "pairs" = some (.ref PR)) (m2 : m "counts" = some (.ref CA)) (m3 : m "told" = some (.ref TA))
    (hta : LsB β TA (rr τ done)) (hca : LsB β CA (iv cs)) (hma : LsB β MA (iv ms)) (hms : ms.length = N) (hmk : MarksAre mk ms) (hsrt : done.Pairwise (prec mk)) (hperm : done.Perm (List.range N)) (hcl : cs.length = N)
    (hcs : ∀ p, p < N → cntOf cs p = ((List.range p).countP (fun q => decide (mk p < mk q)) : Nat)) :
    Ex prog w A (callEnvC (fdOf 16 pm cd) L 113) ((bodyOf 16).drop 8) (Led β (fr L m :: cl (L + 3) c :: cl (L + 4) (some (.ref MA)) :: cl (L + 2) (some (.ref CL)) :: cl (L + 1) (some (.int way tw)) :: []))
      (fun f g => (match f with | .ret v => v | _ => .none) = .bool true ∧ Led β [] g) := by
  have hA := hR.1
  -- due
  refine ex_setG (m := m) (ι := Addr) (C := fun a v => v = .ref a) (β' := fun _ => β) (σ1 := fun a => cl (L + 3) c :: cl (L + 4) (some (.ref MA)) :: ls a [] :: cl (L + 2) (some (.ref CL)) :: cl (L + 1) (some (.int way tw)) :: []) (Tr.mono tr_list0 ?_) ?_
  · rintro v h ⟨a, e, l⟩
    refine ⟨a, e, l.perm ?_⟩
    exact ((List.Perm.swap _ _ _).trans (.cons _ ((List.Perm.swap _ _ _).trans (.cons _ (.swap _ _ _)))))
  rintro DA _ rfl
  refine ex_forC (ι := DSt) (n := N) (c := L + 3) (src_range hA (ev_bl W.bRange) ((ev_len (ev_bl W.bLen) (ev_name (.head _) (by ktr_rel)) (.inr hpr)).mono fun v q => q.of (by simp)) (by omega)) rfl
    (fun y => y.b) (fun y => y.m) (fun y => y.c) (fun y => cl (L + 4) (some (.ref MA)) :: ls DA (iv y.ds) :: cl (L + 2) (some (.ref CL)) :: cl (L + 1) (some (.int way tw)) :: [])
    (fun k y => (y.m "pairs" = some (.ref PR) ∧ y.m "counts" = some (.ref CA) ∧ y.m "told" = some (.ref TA) ∧ y.m "due" = some (.ref DA)) ∧ y.ds.length = k ∧ ∀ p, p < k → cntOf y.ds p = ((List.range p).countP (fun q => decide (mk p < mk q)) : Nat)) ?_ ?_ ?_
  · intro β' hb
    refine ⟨⟨β', _, c, []⟩, rfl, rfl, rfl, rfl, ⟨by ktr_rel, by ktr_rel, by ktr_rel, by ktr_rel⟩, rfl, fun p hp => absurd hp (Nat.not_lt_zero _)⟩
  · intro k y v i hk hv hb ⟨⟨i1, i2, i3, i4⟩, ilen, iok⟩
    obtain ⟨tv, rfl⟩ := hv
    have W' := W.le hb
    have hma' := hma.le hb
    obtain ⟨tk, hmsk⟩ : ∃ t, ms[k]? = some (mk k, t) := by
      have e := List.getElem?_eq_getElem (show k < ms.length by omega)
      have := hmk k _ e
      exact ⟨(ms[k]'(by omega)).2, by rw [e, ← this]⟩
    generalize hcn : (List.range k).countP (fun q => decide (mk k < mk q)) = cn
    refine ex_expr (Q := fun h => ∃ t : Tok, Led y.b (fr L y.m :: cl (L + 3) (some (.int k tv)) :: i :: cl (L + 4) (some (.ref MA)) :: ls DA (iv (y.ds ++ [((cn : Int), t)])) :: cl (L + 2) (some (.ref CL)) :: cl (L + 1) (some (.int way tw)) :: []) h) ?_ ?_
    · refine tr_append (ι := Tok) (xs := iv y.ds) (C := fun t v => v = .int cn t) (β' := fun _ => y.b)
        (σ1 := fun _ => fr L y.m :: cl (L + 3) (some (.int k tv)) :: i :: cl (L + 4) (some (.ref MA)) :: ls DA (iv y.ds) :: cl (L + 2) (some (.ref CL)) :: cl (L + 1) (some (.int way tw)) :: []) (ev_name (.head _) i4) (.tail _ (.tail _ (.tail _ (.tail _ (.head _))))) ?_ ?_
      · refine Tr.mono (ev_lenN (n := cn) (ev_bl W'.bLen) (Tr.mono (count_comp (cl := [(("place" : Str), L + 3), (("marks" : Str), L + 4)]) (src_made (xs := (iv ms).take k) hA (tr_take (k := k) (ev_cell (.tail _ (.tail _ (.tail _ (.head _)))) rfl) (.inr hma') ((ev_cell (.tail _ (.head _)) rfl).mono fun v e => ⟨tv, e⟩))) (fun q => decide (mk k < mk q)) (by rw [List.length_take, iv_len]; omega) ?_ (fun _ => rfl) (fun _ => rfl) (fun _ => rfl) rfl rfl (by decide +kernel) (by decide +kernel)) ?_)) ?_
        · intro C i' j' k' v β2 m' hk' hv hb2 hone
          have hk2 : k' < k := by rw [List.length_take] at hk'; omega
          rw [List.getElem?_take_of_lt hk2] at hv
          obtain ⟨x, hx⟩ : ∃ x, ms[k']? = some x := ⟨_, List.getElem?_eq_getElem (by omega)⟩
          rw [iv_get hx] at hv
          cases hv
          rw [hmk k' x hx] at hone
          refine ts_lt ?_ (ev_namei (.head _) hone)
          refine (ev_item (k := k) (ev_cell (.tail _ (.tail _ (.tail _ (.tail _ (.tail _ (.tail _ (.head _))))))) rfl) ((ev_cell (.tail _ (.tail _ (.tail _ (.tail _ (.head _))))) rfl).mono fun v e => ⟨tv, e⟩) (.inr (hma'.le hb2)) (by omega) ?_).mono fun v e => ⟨tk, e⟩
          rw [Int.toNat_natCast]; exact iv_get hmsk
        · rintro v h ⟨a, xs, e, q, l⟩
          refine ⟨a, xs, e, ?_, l⟩
          rw [q, List.length_take, iv_len, Nat.min_eq_left (by omega), hcn]
        · rintro v h ⟨⟨t, e⟩, l⟩
          exact ⟨t, e, l⟩
      · rintro t v e
        subst e
        refine Tr.mono (tr_append1 (.tail (.tail (.tail (.tail .head)))) (by rw [iv_len]; omega)) ?_
        rintro r h ⟨e, l⟩
        refine ⟨e, t, ?_⟩
        rw [← iv_app]; exact l
    refine ex_ex fun t => ex_nil fun g l => ?_
    refine ⟨.inl rfl, ⟨y.b, _, _, y.ds ++ [((cn : Int), t)]⟩, .refl _, ⟨⟨i1, i2, i3, i4⟩, by simp [ilen], fun p hp => ?_⟩, l⟩
    dsimp only
    by_cases e : p = k
    · subst e
      rw [hcn]
      exact cnt_of (c := ((cn : Int), t)) (by rw [List.getElem?_append_right (by omega)]; simp [ilen])
    · rw [← iok p (by omega)]
      unfold cntOf
      rw [List.getD_eq_getElem?_getD, List.getD_eq_getElem?_getD, List.getElem?_append_left (by omega)]
  · rintro y hb ⟨⟨i1, i2, i3, i4⟩, ilen, iok⟩
    have W' := W.le hb
    obtain ⟨_, _, hfs⟩ := W'.f13
    have hdl : done.length = N := by rw [hperm.length_eq, List.length_range]
    refine ex_ret (Tr.mono (ev_and (d := true) ?_ ?_) ?_)
    · refine tr_valCmp (ev_name (v := .ref TA) (.head _) i3) (R2 := fun a b h => ∃ O os, a = .ref TA ∧ b = .ref O ∧ (os.length = N ∧ ∀ p, p < N → os[rankOf mk N p]? = some (.ref (τ p))) ∧ Led y.b (ls O os :: fr L y.m :: cl (L + 3) y.c :: cl (L + 4) (some (.ref MA)) :: ls DA (iv y.ds) :: cl (L + 2) (some (.ref CL)) :: cl (L + 1) (some (.int way tw)) :: []) h) ?_ ?_
      · intro a
        refine Tr.and fun e => ?_
        subst e
        refine tr_fn2 (ev_gl W'.g13) hfs (V1 := (· = .ref PR)) (V2 := (· = .ref MA)) (ev_name (.head _) i1) (ev_cell (.tail _ (.tail _ (.head _))) rfl) ?_
        rintro _ _ rfl rfl
        refine Tr.mono (order_ok W' (hR.less (by omega)) (hpr.le hb) (hma.le hb) hms hmk) ?_
        rintro r h ⟨O, os, e, q, l⟩
        exact ⟨O, os, rfl, e, q, l⟩
      · intro a b
        refine Tr.ex fun O => Tr.ex fun os => Tr.and fun e1 => Tr.and fun e2 => Tr.and fun q => ?_
        subst e1 e2
        obtain ⟨q1, q2⟩ := q
        refine Tr.mono (tr_leq (c := true) (.inr (hta.le hb)) (.inl (.head _)) hR.units (.inl ⟨?_, rfl, fun j x z hx hz => .inl ?_⟩)) fun v h q => ⟨q.1, q.2.tail⟩
        · rw [q1]; simp [rr, hdl]
        · unfold rr at hx
          rw [List.getElem?_map] at hx
          obtain ⟨p, hp, rfl⟩ := Option.map_eq_some_iff.mp hx
          have hpN : p < N := List.mem_range.mp (hperm.mem_iff.mp (List.mem_of_getElem? hp))
          have e := q2 p hpN
          rw [sorted_at hsrt hperm hp, hz] at e
          exact (Option.some.inj e).symm
    · refine ev_cmp (V1 := (· = .ref CA)) (V2 := (· = .ref DA)) (ev_name (.head _) i2) (ev_name (.head _) i4) ?_
      rintro _ _ rfl rfl
      refine tr_leq (c := true) (.inr (hca.le hb)) (.inl (.tail _ (.tail _ (.tail _ (.head _))))) hR.units (.inl ⟨?_, rfl, fun j x z hx hz => .inr ?_⟩)
      · rw [iv_len, iv_len, ilen, hcl]
      · have hj : j < N := by
          have := (List.getElem?_eq_some_iff.mp hx).1
          rw [iv_len] at this; omega
        obtain ⟨x', hx'⟩ : ∃ x, cs[j]? = some x := ⟨_, List.getElem?_eq_getElem (by omega)⟩
        obtain ⟨z', hz'⟩ : ∃ x, y.ds[j]? = some x := ⟨_, List.getElem?_eq_getElem (by omega)⟩
        rw [iv_get hx'] at hx
        rw [iv_get hz'] at hz
        cases hx
        cases hz
        have e1 := hcs j hj
        have e2 := iok j hj
        rw [cnt_of hx'] at e1
        rw [cnt_of hz'] at e2
        refine ⟨x'.1, x'.2, z'.2, rfl, ?_⟩
        rw [e1, e2]
    · rintro v h ⟨e, l⟩
      exact ⟨e, (l.tail.tail.tail.tail.tail.tail).weak hb⟩
end


section
variable {prog : Program} {w : World} {A : Around} {β : Base} {σ : List It}
theorem law4 {L CL PR CA PA : Addr} {pm cd : Value} {m : Str → Option Value} {way : Int} {tw : Tok} {cl0 : List (Int × Tok)} {τ : Nat → Addr} {val : Nat → Int} {c : Option Value} {as : List Addr} {R : List (List Nat)} {cs : List (Int × Tok)} (W : Wd β) (hR : Rm 5 A)
    (hN : cl0.length ≤ 24) (hpr : LsB β PR (rr τ (List.range cl0.length))) (hpo : PairsOk β τ val cl0.length) (m1 : m "pairs" = some (.ref PR)) (m2 : m "counts" = some (.ref CA)) (m3 : m "pile" = some (.ref PA))
    (hrows : RowsAt β τ as R) (hpl : Pl (mkW way val) (cntOf cs) 0 R) (hlen : R.flatten.length = cl0.length) (hcs : cs.length = cl0.length) :
    Ex prog w A (callEnvC (fdOf 16 pm cd) L 113) ((bodyOf 16).drop 6) (Led β (fr L m :: cl (L + 3) c :: cl (L + 4) none :: cl (L + 2) (some (.ref CL)) :: cl (L + 1) (some (.int way tw)) :: ls PA (as.map .ref) :: ls CA (iv cs) :: []))
      (fun f g => (match f with | .ret v => v | _ => .none) = .bool true ∧ Led β [] g) := by
  have hA := hR.1
  refine Ex.pre (P := Led β (ls PA (as.map .ref) :: fr L m :: cl (L + 3) c :: cl (L + 4) none :: cl (L + 2) (some (.ref CL)) :: cl (L + 1) (some (.int way tw)) :: ls CA (iv cs) :: [])) ?_ (fun g l => l.perm (List.perm_middle (l₁ := [fr L m, cl (L + 3) c, cl (L + 4) none, cl (L + 2) (some (.ref CL)), cl (L + 1) (some (.int way tw))])))
  refine ex_freeze fun b1 hb1 hpa => ?_
  have W1 := W.le hb1
  have hin : JIn b1 τ val way cl0.length PA as R :=
    ⟨hpa, hrows.le hb1, hpo.le hb1, fun r hr p hp => by have := hpl.mem (List.mem_flatten.mpr ⟨r, hr, hp⟩); omega, hpl.rows, by omega⟩
  obtain ⟨_, _, hfs⟩ := W1.f15
  -- told
  refine ex_setG (m := m) (ι := Base × Addr × List Nat × List (Int × Tok)) (C := fun x v => v = .ref x.2.1 ∧ b1.le x.1 ∧ LsB x.1 x.2.1 (rr τ x.2.2.1) ∧ LsB x.1 CA (iv x.2.2.2) ∧ JOut (mkW way val) R cs x.2.2.2 x.2.2.1) (β' := fun x => x.1)
    (σ1 := fun x => cl (L + 3) c :: cl (L + 4) none :: cl (L + 2) (some (.ref CL)) :: cl (L + 1) (some (.int way tw)) :: []) ?_ ?_
  · refine tr_fn3 (ev_gl W1.g15) hfs (V1 := (· = .ref PA)) (V2 := IsI way) (V3 := (· = .ref CA)) (ev_name (.head _) m3) ((ev_cell (.tail _ (.tail _ (.tail _ (.tail _ (.head _))))) rfl).mono fun v e => ⟨tw, e⟩) (ev_name (.head _) m2) ?_
    rintro _ v2 _ rfl e2 rfl
    refine Tr.pre (Tr.mono (joined_ok (σ := [fr L m, cl (L + 3) c, cl (L + 4) none, cl (L + 2) (some (.ref CL)), cl (L + 1) (some (.int way tw))]) (CA := CA) W1 hR hin hcs e2) ?_) fun h l => led_last (pre := [fr L m, cl (L + 3) c, cl (L + 4) none, cl (L + 2) (some (.ref CL)), cl (L + 1) (some (.int way tw))]) l
    rintro r h ⟨J, done, cs', e, o, l⟩
    obtain ⟨b', hb', hl, l'⟩ := freeze_ls l
    obtain ⟨b'', hb'', hl', l''⟩ := freeze_ls l'
    exact ⟨(b'', J, done, cs'), ⟨e, hb'.trans hb'', hl.le hb'', hl', o⟩, l''⟩
  rintro ⟨b2, TA, done, cs'⟩ v ⟨e, hb2, hta, hca, o⟩
  dsimp only at e hb2 hta hca o ⊢
  subst e
  have hbb := hb1.trans hb2
  refine ex_frame (fun m' => m' "pairs" = some (.ref PR) ∧ m' "counts" = some (.ref CA) ∧ m' "told" = some (.ref TA)) ⟨by ktr_rel, by ktr_rel, by ktr_rel⟩ ?_
  rintro m5 ⟨n1, n2, n3⟩
  -- marks
  refine ex_setC (ι := Base × Addr × List (Int × Tok)) (c := L + 4) (C := fun y v => v = .ref y.2.1 ∧ b2.le y.1 ∧ LsB y.1 y.2.1 (iv y.2.2) ∧ y.2.2.length = cl0.length ∧ MarksAre (mkW way val) y.2.2) (β' := fun y => y.1) (σ1 := fun y => fr L m5 :: cl (L + 3) c :: cl (L + 4) none :: cl (L + 2) (some (.ref CL)) :: cl (L + 1) (some (.int way tw)) :: [])
    (σ2 := fun y v => fr L m5 :: cl (L + 3) c :: cl (L + 4) (some v) :: cl (L + 2) (some (.ref CL)) :: cl (L + 1) (some (.int way tw)) :: []) rfl ?_ (fun y v => .tail (.tail .head)) ?_
  · have hpr2 := hpr.le hbb
    have hpo2 := hpo.le hbb
    refine Tr.mono (tr_comp (n := (rr τ (List.range cl0.length)).length) (cl := [(("way" : Str), L + 1)]) (Acc := fun k ys b => ∃ ms : List (Int × Tok), ys = iv ms ∧ ms.length = k ∧ MarksAre (mkW way val) ms) {
      V := fun k v => (rr τ (List.range cl0.length))[k]? = some v
      cnd := fun _ _ => true
      G := fun k v m' => ∃ t, m' "value" = some (.int (val k) t)
      src := src_list hA (ev_name (.head _) n1) hpr2
      hn := by simp [rr]; omega
      h0 := fun _ _ => ⟨[], rfl, rfl, fun i x h => by cases h⟩
      hasg := fun C i j k v β' m hk hv hb => by
        have hk' : k < cl0.length := by simpa [rr] using hk
        have ev : v = .ref (τ k) := by simpa [rr, hk'] using hv.symm
        subst ev
        obtain ⟨t, u, q⟩ := hpo2 k hk'
        refine Tr.mono (tr_assign2 hA (q.le hb) rfl rfl rfl) fun _ h l => ⟨_, ⟨t, ?_⟩, l⟩
        exact (upd_ne (by decide)).trans upd_self
      htest := fun C i j k v β' m' hk hv hb g s hp => wpAny_tests_nil ⟨Sm.refl s, rfl, hp⟩
      hskip := fun k v ys β' hk hv hb acc h => by cases h
      helt := fun C i j k v ys β' m' hk hv hb acc g _ => by
        obtain ⟨ms, rfl, hml, hmk⟩ := acc
        obtain ⟨t, g⟩ := g
        refine Tr.mono (ev_ifexp (V := IsI (mkW way val k)) (c := way == 0) (ts_eq ((ev_cell (.tail _ (.tail _ (.tail _ (.tail _ (.tail _ (.tail _ (.tail _ (.head _)))))))) rfl).mono fun v e => ⟨tw, e⟩) ev_int) (fun h => ?_) (fun h => ?_)) ?_
        · refine (ev_namei (.head _) g).mono fun v q => q.of ?_
          unfold mkW; rw [if_pos (by simpa using h)]
        · refine (ev_neg (ev_namei (.head _) g)).mono fun v q => q.of ?_
          unfold mkW; rw [if_neg (by simpa using h)]
        · rintro v h ⟨⟨t', e⟩, l⟩
          subst e
          refine ⟨β', .refl _, ⟨ms ++ [(mkW way val k, t')], by rw [iv_app], by simp [hml], fun q x hq => ?_⟩, l⟩
          by_cases hqk : q < ms.length
          · rw [List.getElem?_append_left hqk] at hq
            exact hmk q x hq
          · have : q = ms.length := by
              have := (List.getElem?_eq_some_iff.mp hq).1
              simp at this; omega
            subst this
            rw [List.getElem?_append_right (Nat.le_refl _)] at hq
            simp at hq
            subst hq
            rw [hml]
      hs := fun _ => rfl
      hclos := rfl
      hkind := rfl
      hnames := by decide +kernel
      hcell := by decide +kernel }) ?_
    rintro v h ⟨D, ys, b3, e, hb3, ⟨ms, rfl, hml, hmk⟩, l⟩
    obtain ⟨b4, hb4, hl, l'⟩ := freeze_ls l
    exact ⟨(b4, D, ms), ⟨e, hb3.trans hb4, hl, by simpa [rr] using hml, hmk⟩, l'⟩
  rintro ⟨b3, MA, ms⟩ v ⟨e, hb3, hma, hml, hmk⟩
  dsimp only at e hb3 hma hml hmk ⊢
  subst e
  have hb03 := hbb.trans hb3
  have hfl : R.flatten.Perm (List.range cl0.length) := by
    have := hpl.perm
    rw [hlen] at this
    rw [List.range_eq_range']; exact this
  refine Ex.mono (law5 (pm := pm) (cd := cd) (W.le hb03) hR hN (hpr.le hb03) n1 n2 n3 (hta.le hb3) (hca.le hb3) hma hml hmk o.srt (o.perm.trans hfl) (by rw [o.len]; exact hcs) ?_) ?_
  · intro p hp
    have hpR : p ∈ R.flatten := hfl.mem_iff.mpr (List.mem_range.mpr hp)
    rw [cnt_add o (by omega), if_pos hpR, hpl.total hpR, List.range_eq_range', Nat.sub_zero]
  · rintro f g ⟨e, l⟩
    exact ⟨e, l.weak hb03⟩

end


section
variable {prog : Program} {w : World} {A : Around} {β : Base} {σ : List It}
theorem law3 {L CL PR CA PA : Addr} {pm cd : Value} {m : Str → Option Value} {way : Int} {tw t0 : Tok} {cl0 : List (Int × Tok)} {τ : Nat → Addr} {val : Nat → Int} (W : Wd β) (hR : Rm 5 A) (hcl : LsB β CL (iv cl0)) (hN : cl0.length ≤ 24)
    (hpr : LsB β PR (rr τ (List.range cl0.length))) (hpo : PairsOk β τ val cl0.length) (m1 : m "pairs" = some (.ref PR)) (m2 : m "counts" = some (.ref CA)) (m3 : m "pile" = some (.ref PA)) :
    Ex prog w A (callEnvC (fdOf 16 pm cd) L 113) ((bodyOf 16).drop 5) (Led β (fr L m :: cl (L + 3) none :: cl (L + 4) none :: cl (L + 2) (some (.ref CL)) :: cl (L + 1) (some (.int way tw)) :: ls PA [] :: ls CA (iv (List.replicate cl0.length (0, t0))) :: []))
      (fun f g => (match f with | .ret v => v | _ => .none) = .bool true ∧ Led β [] g) := by
  have hA := hR.1
  refine ex_forC (ι := LSt) (n := cl0.length) (c := L + 3) (src_range hA (ev_bl W.bRange) ((ev_len (ev_bl W.bLen) (ev_name (.head _) m1) (.inr hpr)).mono fun v q => q.of (by simp)) (by omega)) rfl
    (fun y => y.b) (fun y => y.m) (fun y => y.c) (fun y => cl (L + 4) none :: cl (L + 2) (some (.ref CL)) :: cl (L + 1) (some (.int way tw)) :: ls y.pa (y.as.map .ref) :: ls CA (iv y.cs) :: [])
    (fun k y => LInv PR CA τ (mkW way val) cl0.length k y) ?_ ?_ ?_
  · intro β' hb
    refine ⟨⟨β', m, none, PA, [], [], List.replicate cl0.length (0, t0)⟩, rfl, rfl, rfl, rfl, m1, m2, m3, ⟨rfl, fun j a r h => by simp at h, fun r h => by cases h⟩, trivial, rfl, by simp, fun p _ => ?_⟩
    unfold cntOf
    rw [List.getD_eq_getElem?_getD]
    cases q : (List.replicate cl0.length ((0 : Int), t0))[p]? with
    | none => rfl
    | some x =>
      have := List.mem_of_getElem? q
      rw [(List.mem_replicate.mp this).2]; rfl
  · intro k y v i hk hv hb hI
    obtain ⟨tv, rfl⟩ := hv
    obtain ⟨i1, i2, i3, irows, ipl, ilen, ics, izero⟩ := hI
    have W1 := W.le hb
    -- pile.append([pairs[place]])
    refine ex_expr (Q := fun h => ∃ x : Base × Addr, (y.b.le x.1 ∧ LsB x.1 x.2 (rr τ [k])) ∧ Led x.1 (fr L y.m :: cl (L + 3) (some (.int k tv)) :: i :: cl (L + 4) none :: cl (L + 2) (some (.ref CL)) :: cl (L + 1) (some (.int way tw)) :: ls y.pa ((y.as ++ [x.2]).map .ref) :: ls CA (iv y.cs) :: []) h) ?_ ?_
    · have yasl : y.as.length ≤ 24 := by
        have h1 := len_flat irows.ne
        have h2 := irows.len
        omega
      refine tr_append (ι := Base × Addr) (xs := y.as.map .ref) (C := fun x v => v = .ref x.2 ∧ y.b.le x.1 ∧ LsB x.1 x.2 (rr τ [k])) (β' := fun x => x.1)
        (σ1 := fun _ => fr L y.m :: cl (L + 3) (some (.int k tv)) :: i :: cl (L + 4) none :: cl (L + 2) (some (.ref CL)) :: cl (L + 1) (some (.int way tw)) :: ls y.pa (y.as.map .ref) :: ls CA (iv y.cs) :: []) (ev_name (.head _) i3) (.tail _ (.tail _ (.tail _ (.tail _ (.tail _ (.tail _ (.head _))))))) ?_ ?_
      · refine Tr.mono (tr_list1 (V := (· = .ref (τ k))) ?_) ?_
        · refine ev_item (k := k) (ev_name (.head _) i1) ((ev_cell (.tail _ (.head _)) rfl).mono fun v e => ⟨tv, e⟩) (.inr (hpr.le hb)) (by omega) ?_
          rw [Int.toNat_natCast]; simp [rr, hk]
        · rintro v h ⟨x, a, rfl, e, l⟩
          obtain ⟨b', hb', hl, l'⟩ := freeze_ls l
          exact ⟨(b', a), ⟨e, hb', hl⟩, l'⟩
      · rintro ⟨b', a⟩ v ⟨e, h1, h2⟩
        dsimp only at e h1 h2 ⊢
        subst e
        refine Tr.mono (tr_append1 (.tail (.tail (.tail (.tail (.tail (.tail .head)))))) (by simp; omega)) ?_
        rintro r h ⟨e, l⟩
        refine ⟨e, (b', a), ⟨h1, h2⟩, ?_⟩
        rw [List.map_append]; exact l
    refine ex_ex fun x => ex_and fun hx => ?_
    obtain ⟨b1, a1⟩ := x
    obtain ⟨hb1, ha1⟩ := hx
    dsimp only at hb1 ha1 ⊢
    have rows1 := (irows.le hb1).snoc ha1 (by simp)
    obtain ⟨pl1, len1⟩ := app_step ipl ilen (izero k (Nat.le_refl _))
    have zero1 : ∀ p, k + 1 ≤ p → cntOf y.cs p = 0 := fun p hp => izero p (by omega)
    have asl : (y.as ++ [a1]).length = (y.R ++ [[k]]).length := rows1.len
    generalize eas : y.as ++ [a1] = as1 at rows1 asl ⊢
    generalize eR1 : y.R ++ [[k]] = R1 at rows1 pl1 len1 asl
    have as1l : 1 ≤ as1.length := by rw [← eas]; simp
    have as1u : as1.length ≤ 25 := by
      have := len_flat rows1.ne
      omega
    have hbb1 := hb.trans hb1
    have W2 := W.le hbb1
    -- many
    refine ex_set (V := fun v => ∃ q : Nat, 1 ≤ q ∧ q ≤ as1.length ∧ IsI q v) ?_ ?_
    · obtain ⟨cx, hcx⟩ : ∃ x, cl0[k]? = some x := ⟨_, List.getElem?_eq_getElem hk⟩
      have hj0 : 0 ≤ cx.1.fmod 4 := Int.fmod_nonneg_of_pos _ (by decide)
      have hj4 : cx.1.fmod 4 < 4 := Int.fmod_lt_of_pos _ (by decide)
      generalize hjd : cx.1.fmod 4 = jd at hj0 hj4
      refine Ev.mono (ev_min (i := ([1, 2, 3, (as1.length : Int)] : List Int).getD jd.toNat 0) (j := as1.length) hA (ev_bl W2.bMin) (ev_tup4item (V1 := IsI 1) (V2 := IsI 2) (V3 := IsI 3) (V4 := IsI as1.length) (j := jd) ev_int ev_int ev_int ?_ ?_ hj0 hj4 ?_) ?_) ?_
      · exact (ev_len (ev_bl W2.bLen) (ev_name (.head _) i3) (.inl (.tail _ (.tail _ (.tail _ (.tail _ (.tail _ (.tail _ (.head _))))))))).mono fun v q => q.of (by simp)
      · intro b' hb'
        refine (ev_mod (i := cx.1) ((ev_item (k := k) (ev_cell (.tail _ (.tail _ (.tail _ (.tail _ (.head _))))) rfl) ((ev_cell (.tail _ (.head _)) rfl).mono fun v e => ⟨tv, e⟩) (.inr ((hcl.le hbb1).le hb')) (by omega) ?_).mono fun v e => ⟨cx.2, e⟩) ev_int (by decide)).mono fun v q => q.of hjd
        rw [Int.toNat_natCast]; exact iv_get hcx
      · rintro x1 x2 x3 x4 x ⟨s1, rfl⟩ ⟨s2, rfl⟩ ⟨s3, rfl⟩ ⟨s4, rfl⟩ hx
        have : jd = 0 ∨ jd = 1 ∨ jd = 2 ∨ jd = 3 := by omega
        rcases this with rfl | rfl | rfl | rfl <;> (cases hx; exact ⟨_, rfl⟩)
      · exact (ev_len (ev_bl W2.bLen) (ev_name (.head _) i3) (.inl (.tail _ (.tail _ (.tail _ (.tail _ (.tail _ (.tail _ (.head _))))))))).mono fun v q => q.of (by simp)
      · rintro v ⟨tq, e⟩
        have : jd = 0 ∨ jd = 1 ∨ jd = 2 ∨ jd = 3 := by omega
        refine ⟨(min (([1, 2, 3, (as1.length : Int)] : List Int).getD jd.toNat 0) as1.length).toNat, ?_, ?_, tq, ?_⟩
        · rcases this with rfl | rfl | rfl | rfl <;> simp <;> omega
        · rcases this with rfl | rfl | rfl | rfl <;> simp <;> omega
        · rw [e]; congr 1; rcases this with rfl | rfl | rfl | rfl <;> simp <;> omega
    rintro v ⟨q, hq1, hq2, tq, rfl⟩
    refine ex_ifQ (c := decide (1 < (q : Int))) (Q := fun h => ∃ y' : LSt, (y.b.le y'.b ∧ LInv PR CA τ (mkW way val) cl0.length (k + 1) y') ∧ Led y'.b (fr L y'.m :: cl (L + 3) y'.c :: i :: cl (L + 4) none :: cl (L + 2) (some (.ref CL)) :: cl (L + 1) (some (.int way tw)) :: ls y'.pa (y'.as.map .ref) :: ls CA (iv y'.cs) :: []) h) ?_ ?_ ?_ ?_
    · exact ts_gt (ev_namei (.head _) (by ktr_rel)) ev_int
    · intro hc
      have hq : 1 < q := by
        have h : (1 : Int) < q := by simpa using hc
        omega
      generalize ed : as1.length - q = d
      have hdR : d < R1.length := by omega
      have edI : (as1.length : Int) - q = (d : Int) := by omega
      have hidx : ∀ (b' : Base) (m' : Str → Option Value) (p1 p2 p3 p4 p5 : Pos) (τ' : List It), m' "pile" = some (.ref y.pa) → m' "many" = some (.int q tq) → Wd b' →
          Ev prog w A (callEnvC (fdOf 16 pm cd) L 113) b' (fr L m' :: cl (L + 3) (some (.int k tv)) :: i :: cl (L + 4) none :: cl (L + 2) (some (.ref CL)) :: cl (L + 1) (some (.int way tw)) :: ls y.pa (as1.map .ref) :: τ')
            (.BinOp (.Call (.Name "len" p1) [.Name "pile" p2] [] p3) .Sub (.Name "many" p4) p5) (IsI d) := fun b' m' p1 p2 p3 p4 p5 τ' h1 h2 W' =>
        (ev_sub (ev_len (ev_bl W'.bLen) (ev_name (.head _) h1) (.inl (.tail _ (.tail _ (.tail _ (.tail _ (.tail _ (.tail _ (.head _))))))))) (ev_namei (.head _) h2)).mono fun v q => q.of (by rw [List.length_map]; exact edI)
      -- rows
      refine ex_setG (m := upd y.m "many" (.int q tq)) (ι := Base × Addr) (C := fun x v => v = .ref x.2 ∧ b1.le x.1 ∧ LsB x.1 x.2 ((as1.drop d).map .ref)) (β' := fun x => x.1)
        (σ1 := fun _ => cl (L + 3) (some (.int k tv)) :: i :: cl (L + 4) none :: cl (L + 2) (some (.ref CL)) :: cl (L + 1) (some (.int way tw)) :: ls y.pa (as1.map .ref) :: ls CA (iv y.cs) :: []) ?_ ?_
      · refine Tr.mono (tr_drop (k := d) (ev_name (.head _) (by ktr_rel)) (.inl (.tail _ (.tail _ (.tail _ (.tail _ (.tail _ (.tail _ (.head _)))))))) (hidx _ _ _ _ _ _ _ _ (by ktr_rel) (by ktr_rel) W2)) ?_
        rintro v h ⟨c, e, l⟩
        obtain ⟨b', hb', hl, l'⟩ := freeze_ls l
        exact ⟨(b', c), ⟨e, hb', by rw [List.map_drop]; exact hl⟩, l'⟩
      rintro ⟨b2, RA⟩ v ⟨e, hb2, hra⟩
      dsimp only at e hb2 hra ⊢
      subst e
      have hbb2 := hbb1.trans hb2
      have W3 := W.le hbb2
      -- pile
      refine ex_setG (m := upd (upd y.m "many" (.int q tq)) "rows" (.ref RA)) (ι := Addr) (C := fun a v => v = .ref a) (β' := fun _ => b2)
        (σ1 := fun a => cl (L + 3) (some (.int k tv)) :: i :: cl (L + 4) none :: cl (L + 2) (some (.ref CL)) :: cl (L + 1) (some (.int way tw)) :: ls a ((as1.take d).map .ref) :: ls CA (iv y.cs) :: []) ?_ ?_
      · refine Tr.mono (tr_take (k := d) (ev_name (.head _) (by ktr_rel)) (.inl (.tail _ (.tail _ (.tail _ (.tail _ (.tail _ (.tail _ (.head _)))))))) (hidx _ _ _ _ _ _ _ _ (by ktr_rel) (by ktr_rel) W3)) ?_
        rintro v h ⟨c, e, l⟩
        refine ⟨c, e, ?_⟩
        rw [← List.map_take] at l
        exact led_mid (pre := [fr L (upd (upd y.m "many" (.int q tq)) "rows" (.ref RA)), cl (L + 3) (some (.int k tv)), i, cl (L + 4) none, cl (L + 2) (some (.ref CL)), cl (L + 1) (some (.int way tw))]) l
      rintro PA2 v e
      subst e
      refine ex_frame (fun m' => m' "pairs" = some (.ref PR) ∧ m' "counts" = some (.ref CA) ∧ m' "pile" = some (.ref PA2) ∧ m' "rows" = some (.ref RA)) ⟨by ktr_rel, by ktr_rel, by ktr_rel, by ktr_rel⟩ ?_
      rintro m5 ⟨n1, n2, n3, n4⟩
      have hin : JIn b2 τ val way cl0.length RA (as1.drop d) (R1.drop d) := by
        have hpd : ∃ a, Pl (mkW way val) (cntOf y.cs) a (R1.drop d) := by
          have h := pl1
          rw [← List.take_append_drop d R1, Pl.app] at h
          exact ⟨_, h.2⟩
        have hsub : ∀ r ∈ R1.drop d, r ∈ R1 := fun r hr => List.mem_of_mem_drop hr
        refine ⟨hra, (rows1.le hb2).drop d, hpo.le hbb2, fun r hr p hp => ?_, hpd.choose_spec.rows, ?_⟩
        · have := pl1.mem (List.mem_flatten.mpr ⟨r, hsub r hr, hp⟩)
          omega
        · have h1 : (R1.take d).flatten.length + (R1.drop d).flatten.length = k + 1 := by
            rw [← len1]
            conv => rhs; rw [← List.take_append_drop d R1]
            rw [List.flatten_append, List.length_append]
          omega
      obtain ⟨_, _, hfs⟩ := W3.f15
      have hd24 : (as1.take d).length ≤ 24 := by rw [List.length_take]; omega
      -- pile.append(joined)
      refine ex_expr (Q := fun h => ∃ x : Base × Addr × List Nat × List (Int × Tok), (b2.le x.1 ∧ LsB x.1 x.2.1 (rr τ x.2.2.1) ∧ JOut (mkW way val) (R1.drop d) y.cs x.2.2.2 x.2.2.1) ∧
        Led x.1 (fr L m5 :: cl (L + 3) (some (.int k tv)) :: i :: cl (L + 4) none :: cl (L + 2) (some (.ref CL)) :: cl (L + 1) (some (.int way tw)) :: ls PA2 ((as1.take d ++ [x.2.1]).map .ref) :: ls CA (iv x.2.2.2) :: []) h) ?_ ?_
      · refine tr_append (ι := Base × Addr × List Nat × List (Int × Tok)) (xs := (as1.take d).map .ref) (C := fun x v => v = .ref x.2.1 ∧ b2.le x.1 ∧ LsB x.1 x.2.1 (rr τ x.2.2.1) ∧ JOut (mkW way val) (R1.drop d) y.cs x.2.2.2 x.2.2.1) (β' := fun x => x.1)
          (σ1 := fun x => fr L m5 :: cl (L + 3) (some (.int k tv)) :: i :: cl (L + 4) none :: cl (L + 2) (some (.ref CL)) :: cl (L + 1) (some (.int way tw)) :: ls PA2 ((as1.take d).map .ref) :: ls CA (iv x.2.2.2) :: []) (ev_name (.head _) n3) (.tail _ (.tail _ (.tail _ (.tail _ (.tail _ (.tail _ (.head _))))))) ?_ ?_
        · refine tr_fn3 (ev_gl W3.g15) hfs (V1 := (· = .ref RA)) (V2 := IsI way) (V3 := (· = .ref CA)) (ev_name (.head _) n4) ((ev_cell (.tail _ (.tail _ (.tail _ (.tail _ (.tail _ (.head _)))))) rfl).mono fun v e => ⟨tw, e⟩) (ev_name (.head _) n2) ?_
          rintro _ v2 _ rfl e2 rfl
          refine Tr.pre (Tr.mono (joined_ok (σ := [fr L m5, cl (L + 3) (some (.int k tv)), i, cl (L + 4) none, cl (L + 2) (some (.ref CL)), cl (L + 1) (some (.int way tw)), ls PA2 ((as1.take d).map .ref)]) (CA := CA) W3 hR hin ics e2) ?_) fun h l => led_last (pre := [fr L m5, cl (L + 3) (some (.int k tv)), i, cl (L + 4) none, cl (L + 2) (some (.ref CL)), cl (L + 1) (some (.int way tw)), ls PA2 ((as1.take d).map .ref)]) l
          rintro r h ⟨J, done, cs', e, o, l⟩
          obtain ⟨b', hb', hl, l'⟩ := freeze_ls l
          exact ⟨(b', J, done, cs'), ⟨e, hb', hl, o⟩, led_first l'⟩
        · rintro ⟨b', J, done, cs'⟩ v ⟨e, h1, h2, h3⟩
          dsimp only at e h1 h2 h3 ⊢
          subst e
          refine Tr.mono (tr_append1 (.tail (.tail (.tail (.tail (.tail (.tail .head)))))) (by rw [List.length_map]; omega)) ?_
          rintro r h ⟨e, l⟩
          refine ⟨e, (b', J, done, cs'), ⟨h1, h2, h3⟩, ?_⟩
          rw [List.map_append]; exact l
      refine ex_ex fun x => ex_and fun hx => ?_
      obtain ⟨b3, J, done, cs'⟩ := x
      obtain ⟨hb3, hJ, ho⟩ := hx
      dsimp only at hb3 hJ ho ⊢
      obtain ⟨pl2, len2, zero2, dne⟩ := join_step (d := d) pl1 len1 (by omega) ics zero1 hdR ho
      -- if pile[-1] == []
      refine ex_if (c := false) ?_ (fun h => by cases h) (fun _ => ex_end ?_)
      · refine ts_eq_nil (a := J) (xs := rr τ done) (ev_last (a := PA2) (ev_name (.head _) n3) (ev_neg ev_int) (.inl (.tail _ (.tail _ (.tail _ (.tail _ (.tail _ (.tail _ (.head _)))))))) (by simp)) hJ (by simpa [rr] using dne) hR.units
      refine ex_nil fun g l => ⟨rfl, ⟨b3, m5, _, PA2, as1.take d ++ [J], R1.take d ++ [done], cs'⟩, ⟨(hb1.trans hb2).trans hb3, ?_⟩, l⟩
      exact ⟨n1, n2, n3, ((rows1.le (hb2.trans hb3)).take d).snoc hJ dne, pl2, len2, by rw [ho.len]; exact ics, zero2⟩
    · intro hc
      refine ex_nil fun g l => ⟨rfl, ⟨b1, _, _, y.pa, as1, R1, y.cs⟩, ⟨hb1, ?_⟩, l⟩
      exact ⟨by ktr_rel, by ktr_rel, by ktr_rel, rows1, pl1, len1, ics, zero1⟩
    · refine ex_ex fun y' => ex_and fun hy => ex_nil fun g l => ?_
      exact ⟨.inl rfl, y', hy.1, hy.2, l⟩
  · intro y hb hI
    refine Ex.mono (law4 (pm := pm) (cd := cd) (c := y.c) (W.le hb) hR hN (hpr.le hb) (hpo.le hb) hI.m1 hI.m2 hI.m3 hI.rows hI.pl hI.len hI.cs) ?_
    rintro f g ⟨e, l⟩
    exact ⟨e, l.weak hb⟩

def cval (cl0 : List (Int × Tok)) (p : Nat) : Int := lawValue (cl0.getD p (0, 0)).1

theorem law2 {L CL : Addr} {pm cd : Value} {m : Str → Option Value} {way : Int} {tw : Tok} {cl0 : List (Int × Tok)} (W : Wd β) (hR : Rm 5 A) (hcl : LsB β CL (iv cl0)) (hN : cl0.length ≤ 24) :
    Ex prog w A (callEnvC (fdOf 16 pm cd) L 113) ((bodyOf 16).drop 2) (Led β (fr L m :: cl (L + 3) none :: cl (L + 4) none :: cl (L + 2) (some (.ref CL)) :: cl (L + 1) (some (.int way tw)) :: []))
      (fun f g => (match f with | .ret v => v | _ => .none) = .bool true ∧ Led β [] g) := by
  have hA := hR.1
  -- pairs
  refine ex_compset (n := cl0.length) (cl := [(("cells" : Str), L + 2)]) (Acc := fun k ys b => ∃ τ : Nat → Addr, ys = rr τ (List.range k) ∧ PairsOk b τ (cval cl0) k) {
      V := fun k v => IsI k v
      cnd := fun _ _ => true
      G := fun k v m' => m' "place" = some v
      src := src_range hA (ev_bl W.bRange) ((ev_len (ev_bl W.bLen) (ev_cell (.tail _ (.tail _ (.tail _ (.head _)))) rfl) (.inr hcl)).mono fun v q => q.of (by rw [iv_len])) (by omega)
      hn := by omega
      h0 := fun _ _ => ⟨fun _ => 0, rfl, fun p hp => absurd hp (Nat.not_lt_zero _)⟩
      hasg := fun C i j k v β' m hk hv hb => Tr.mono (tr_assignN (tr_store .head)) fun _ h l => ⟨_, upd_self, l⟩
      htest := fun C i j k v β' m' hk hv hb g s hp => wpAny_tests_nil ⟨Sm.refl s, rfl, hp⟩
      hskip := fun k v ys β' hk hv hb acc h => by cases h
      helt := fun C i j k v ys β' m' hk hv hb acc g _ => by
        obtain ⟨τ, rfl, hpo⟩ := acc
        obtain ⟨tv, rfl⟩ := hv
        obtain ⟨x, hx⟩ : ∃ x, cl0[k]? = some x := ⟨_, List.getElem?_eq_getElem hk⟩
        have W' := W.le hb
        obtain ⟨_, _, hfs⟩ := W'.f12
        refine Tr.mono (tr_tup2 (V1 := IsI (cval cl0 k)) (V2 := (· = .int k tv)) ?_ (ev_name (.head _) g)) ?_
        · refine tr_fn1 (ev_gl W'.g12) hfs (V1 := IsI x.1) ?_ ?_
          · refine (ev_item (k := k) (ev_cell (.tail _ (.tail _ (.tail _ (.tail _ (.tail _ (.tail _ (.head _))))))) rfl) (ev_namei (.head _) g) (.inr (hcl.le hb)) (by omega) ?_).mono fun v e => ⟨x.2, e⟩
            rw [Int.toNat_natCast]; exact iv_get hx
          · intro v hv
            refine Tr.mono (value_ok W' (hR.less (by omega)) hv) ?_
            rintro r h ⟨e, l⟩
            refine ⟨e.of ?_, l⟩
            unfold cval
            rw [List.getD_eq_getElem?_getD, hx]; rfl
        · rintro v h ⟨⟨b', a, v1, v2⟩, ⟨⟨t1, c1⟩, c2, c3, c4, c5⟩, l⟩
          dsimp only at c1 c2 c3 c4 c5 l
          subst c1 c2 c3
          refine ⟨b', c5, ⟨fun p => if p = k then a else τ p, ?_, ?_⟩, l⟩
          · simp only [rr]
            rw [List.range_succ, List.map_append, List.map_cons, List.map_nil, if_pos rfl]
            congr 1
            apply List.map_congr_left
            intro p hp
            have : p < k := List.mem_range.mp hp
            rw [if_neg (by omega)]
          · intro p hp
            dsimp only
            by_cases e : p = k
            · subst e; rw [if_pos rfl]; exact ⟨_, _, c4⟩
            · rw [if_neg e]
              obtain ⟨t, u, q⟩ := hpo p (by omega)
              exact ⟨t, u, q.le c5⟩
      hs := fun _ => rfl
      hclos := rfl
      hkind := rfl
      hnames := by decide +kernel
      hcell := by decide +kernel } ?_
  rintro PR ys β1 hb1 ⟨τ, rfl, hpo⟩
  refine Ex.pre (P := Led β1 (ls PR (rr τ (List.range cl0.length)) :: fr L (upd m "pairs" (.ref PR)) :: cl (L + 3) none :: cl (L + 4) none :: cl (L + 2) (some (.ref CL)) :: cl (L + 1) (some (.int way tw)) :: [])) ?_ (fun g l => led_swap l)
  refine ex_freeze fun β2 hb2 hpr => ?_
  have hb02 := hb1.trans hb2
  have W2 := W.le hb02
  -- counts
  refine ex_setG (m := upd m "pairs" (.ref PR)) (ι := Addr × Tok) (C := fun a v => v = .ref a.1) (β' := fun _ => β2) (σ1 := fun a => cl (L + 3) none :: cl (L + 4) none :: cl (L + 2) (some (.ref CL)) :: cl (L + 1) (some (.int way tw)) :: ls a.1 (iv (List.replicate cl0.length (0, a.2))) :: []) ?_ ?_
  · refine tr_bin (tr_list1 (V := IsI 0) ev_int) (R2 := fun a b h => ∃ c t u, a = .ref c ∧ b = .int cl0.length t ∧ Led β2 (ls c [.int 0 u] :: fr L (upd m "pairs" (.ref PR)) :: cl (L + 3) none :: cl (L + 4) none :: cl (L + 2) (some (.ref CL)) :: cl (L + 1) (some (.int way tw)) :: []) h) ?_ ?_
    · intro a
      refine Tr.ex fun x => Tr.ex fun c => Tr.and fun ⟨u, e1⟩ => Tr.and fun e2 => ?_
      subst e1 e2
      refine Tr.mono (ev_len (ev_bl W2.bLen) (ev_name (.tail _ (.head _)) (by ktr_rel)) (.inr hpr)) ?_
      rintro v h ⟨⟨t, e⟩, l⟩
      exact ⟨c, t, u, rfl, by rw [e]; simp, l⟩
    · intro a b
      refine Tr.ex fun c => Tr.ex fun t => Tr.ex fun u => Tr.and fun e1 => Tr.and fun e2 => ?_
      subst e1 e2
      refine Tr.mono (tr_lmul (.head _) (by omega) (by omega)) ?_
      rintro v h ⟨c', e, l⟩
      refine ⟨(c', u), e, ?_⟩
      have l2 := (led_swap l).tail
      rw [Int.toNat_natCast] at l2
      have e : List.replicate cl0.length (Value.int 0 u) = iv (List.replicate cl0.length (0, u)) := by simp [iv]
      rw [e] at l2
      refine l2.perm ?_
      exact ((List.Perm.swap _ _ _).trans (.cons _ ((List.Perm.swap _ _ _).trans (.cons _ ((List.Perm.swap _ _ _).trans (.cons _ ((List.Perm.swap _ _ _).trans (.cons _ (.swap _ _ _)))))))))
  rintro ⟨CA, t0⟩ v e
  dsimp only at e
  subst e
  -- pile
  refine ex_setG (m := upd (upd m "pairs" (.ref PR)) "counts" (.ref CA)) (ι := Addr) (C := fun a v => v = .ref a) (β' := fun _ => β2) (σ1 := fun a => cl (L + 3) none :: cl (L + 4) none :: cl (L + 2) (some (.ref CL)) :: cl (L + 1) (some (.int way tw)) :: ls a [] :: ls CA (iv (List.replicate cl0.length (0, t0))) :: []) (Tr.mono tr_list0 ?_) ?_
  · rintro v h ⟨a, e, l⟩
    refine ⟨a, e, l.perm ?_⟩
    exact ((List.Perm.swap _ _ _).trans (.cons _ ((List.Perm.swap _ _ _).trans (.cons _ ((List.Perm.swap _ _ _).trans (.cons _ ((List.Perm.swap _ _ _).trans (.cons _ (.swap _ _ _)))))))))
  rintro PA _ rfl
  refine Ex.mono (law3 (pm := pm) (cd := cd) W2 hR (hcl.le hb02) hN hpr (hpo.le hb2) (by ktr_rel) (by ktr_rel) (by ktr_rel)) ?_
  rintro f g ⟨e, l⟩
  exact ⟨e, l.weak hb02⟩

theorem law_ok {SA : Addr} {ns : List (Int × Tok)} (W : Wd β) (hF : Fn β 113 16) (hR : Rm 6 A) (hsa : LsB β SA (iv ns)) (hns : ns.length ≤ 63) :
    Tr (model prog w) A (call (.ref 113) [.ref SA]) (Led β []) (fun r h => r = .bool true ∧ Led β [] h) := by
  refine tr_funC (binds := [(("script" : Str), .ref SA)]) hF W.nolim hR (fun _ _ => rfl) (fun _ _ => rfl) (fun _ _ => rfl) (by decide +kernel) ?_ ?_ fun L pm cd A' hR' => ?_
  · intro n x hx
    rw [List.mem_singleton.mp hx]; exact .inl rfl
  · intro L pm cd nc h
    have h : nc ∈ [(("marks" : Str), L + 4), (("place" : Str), L + 3), (("cells" : Str), L + 2), (("way" : Str), L + 1)] := h
    rcases List.mem_cons.mp h with rfl | h
    · rfl
    rcases List.mem_cons.mp h with rfl | h
    · rfl
    rcases List.mem_cons.mp h with rfl | h
    · rfl
    rw [List.mem_singleton.mp h]; rfl
  have hA := hR'.1
  have m1 : bindL (callEnvC (fdOf 16 pm cd) L 113).kindOf [(("script" : Str), Value.ref SA)] (fun _ => none) "script" = some (.ref SA) := rfl
  refine Ex.pre (P := Led β (fr L (bindL (callEnvC (fdOf 16 pm cd) L 113).kindOf [(("script" : Str), Value.ref SA)] (fun _ => none)) :: cl (L + 3) none :: cl (L + 4) none :: cl (L + 2) none :: cl (L + 1) none :: [])) ?_ (fun g l => ?_)
  case refine_2 =>
    have l' : Led β (fr L (bindL (callEnvC (fdOf 16 pm cd) L 113).kindOf [(("script" : Str), Value.ref SA)] (fun _ => none)) :: cl (L + 4) none :: cl (L + 3) none :: cl (L + 2) none :: cl (L + 1) none :: []) g := l
    exact l'.perm ((List.Perm.swap _ _ _).cons _)
  generalize bindL (callEnvC (fdOf 16 pm cd) L 113).kindOf [(("script" : Str), Value.ref SA)] (fun _ => none) = m at m1
  -- way
  refine ex_setCi (c := L + 1) (i := wayOf ns) (σ2 := fun t => fr L m :: cl (L + 3) none :: cl (L + 4) none :: cl (L + 2) none :: cl (L + 1) (some (.int (wayOf ns) t)) :: []) rfl ?_ (fun t => .tail (.tail (.tail (.tail .head)))) fun tw => ?_
  · refine ev_ifexp (c := !(iv ns).isEmpty) (ts_list (ev_name (.head _) m1) (.inr hsa)) ?_ ?_
    · intro hc
      cases ns with
      | nil => cases hc
      | cons x ns => exact ev_mod ((ev_item (k := 0) (ev_name (.head _) m1) ev_int (.inr hsa) (by decide) rfl).mono fun v e => ⟨x.2, e⟩) ev_int (by decide)
    · intro hc
      cases ns with
      | nil => exact ev_int
      | cons x ns => cases hc
  generalize hway : wayOf ns = way
  -- cells
  refine ex_setC (ι := Base × Addr × List (Int × Tok)) (c := L + 2) (C := fun y v => v = .ref y.2.1 ∧ β.le y.1 ∧ LsB y.1 y.2.1 (iv y.2.2) ∧ y.2.2.length ≤ 24) (β' := fun y => y.1) (σ1 := fun y => fr L m :: cl (L + 3) none :: cl (L + 4) none :: cl (L + 2) none :: cl (L + 1) (some (.int way tw)) :: [])
    (σ2 := fun y v => fr L m :: cl (L + 3) none :: cl (L + 4) none :: cl (L + 2) (some v) :: cl (L + 1) (some (.int way tw)) :: []) rfl ?_ (fun y v => .tail (.tail (.tail .head))) ?_
  · refine tr_bin (tr_cut (k := 1) (j := 21) (ev_name (.head _) m1) (.inr hsa) ev_int ev_int)
      (R2 := fun a b h => ∃ c d t1 t2 t3 t4, a = .ref c ∧ b = .ref d ∧ Led β (ls d [.int 24 t1, .int 9 t2, .int 24 t3, .int 18 t4] :: ls c (((iv ns).drop 1).take (21 - 1)) :: fr L m :: cl (L + 3) none :: cl (L + 4) none :: cl (L + 2) none :: cl (L + 1) (some (.int way tw)) :: []) h) ?_ ?_
    · intro a
      refine Tr.ex fun c => Tr.and fun e => ?_
      subst e
      refine Tr.mono (tr_list4 ev_int ev_int ev_int ev_int) ?_
      rintro v h ⟨x1, x2, x3, x4, d, ⟨t1, rfl⟩, ⟨t2, rfl⟩, ⟨t3, rfl⟩, ⟨t4, rfl⟩, e, l⟩
      exact ⟨c, d, t1, t2, t3, t4, rfl, e, l⟩
    · intro a b
      refine Tr.ex fun c => Tr.ex fun d => Tr.ex fun t1 => Tr.ex fun t2 => Tr.ex fun t3 => Tr.ex fun t4 => Tr.and fun e1 => Tr.and fun e2 => ?_
      subst e1 e2
      refine Tr.mono (tr_ladd (.inl (.tail _ (.head _))) (.inl (.head _)) (by simp; omega)) ?_
      rintro v h ⟨f, e, l⟩
      obtain ⟨b', hb, hl, l'⟩ := freeze_ls l
      have ei : ((iv ns).drop 1).take (21 - 1) ++ [.int 24 t1, .int 9 t2, .int 24 t3, .int 18 t4] = iv (((ns.drop 1).take 20) ++ [(24, t1), (9, t2), (24, t3), (18, t4)]) := by
        simp [iv, List.map_take, List.map_drop]
      rw [ei] at hl
      refine ⟨(b', f, ((ns.drop 1).take 20) ++ [(24, t1), (9, t2), (24, t3), (18, t4)]), ⟨e, hb, hl, ?_⟩, l'.tail.tail⟩
      simp; omega
  rintro ⟨β1, CL, cl0⟩ v ⟨rfl, hb1, hcl, hN⟩
  dsimp only at hb1 hcl hN ⊢
  refine Ex.mono (law2 (pm := pm) (cd := cd) (W.le hb1) hR' hcl hN) ?_
  rintro f g ⟨e, l⟩
  exact ⟨e, l.weak hb1⟩
end


theorem iv_of : ∀ {vs : List Value} {ns : List Int}, IntsAre vs ns → ∃ l : List (Int × Tok), vs = iv l ∧ l.length = ns.length
  | _, _, .nil => ⟨[], rfl, rfl⟩
  | _, _, .cons n t h => let ⟨l, e, q⟩ := iv_of h; ⟨(n, t) :: l, by rw [e]; rfl, by simp [q]⟩

theorem ls_of {P : Params} {h : Heap} {a : Addr} {vs : List Value} {d : WData} {xs : List WData} (hd : d = .list xs) (hw : Well P h (.ref a) d) (hl : h.IsList a vs.toArray) (hv : vs.length ≤ 1000) : LsB (fun b => h.get? b) a vs := by
  cases hw <;> first | cases hd | skip
  rename_i us h1 _
  obtain ⟨o, ho, _, n, hn⟩ := hl
  rw [h1] at ho
  cases ho
  have e : us.toArray = vs.toArray := by injection hn
  refine ⟨hv, 0, ?_⟩
  rw [← e]
  exact h1

theorem fn_of {K : Frag} {h : Heap} (X : K.In h) {a c k : Nat} {pm oc oc' : Value} {od od' : Option Addr} {sl sl' : Array (Option Value)} {vs : Array Value} {t : Tok} (h1 : K.lookup a = some ⟨oc, od, .func (fdOf k pm (.ref c)), sl⟩)
    (h2 : K.lookup c = some ⟨oc', od', .fields vs, sl'⟩) (h3 : vs[1]? = some (.str (fdOf k pm (.ref c)).qualname t)) (h4 : (fdOf k pm (.ref c)).code = .ref c) : Fn (fun b => h.get? b) a k :=
  ⟨pm, .ref c, ⟨_, X _ _ h1, rfl⟩, c, _, vs, t, h4, X _ _ h2, rfl, h3⟩

theorem led_base {h : Heap} : Led (fun b => h.get? b) [] h := ⟨fun _ _ e => e, (fun i hi => by cases hi), (fun i hi => by cases hi), List.Pairwise.nil⟩
theorem rm_caller : Rm 6 callerA := by refine ⟨rfl, ?_, ?_⟩ <;> decide +kernel

section
variable {K : Frag} {p : Program} {loose : List Str} {mean : ExcName → Option Value} {mg mb : Str → Option Value} {h : Heap}
theorem gl_of (X : K.In h) (T : Top p loose mean mg mb h) {x : Str} {v : Value} (e : nsIn K mainGlobals x = some (some v)) : Gl (fun b => h.get? b) x v := ⟨mg, T.g, mg_of X T.g e⟩
theorem bl_of (X : K.In h) (T : Top p loose mean mg mb h) {x : Str} {v : Value} (e : nsIn K mainGlobals x = some none) (hx : x ≠ "__name__") (hv : bootBuiltins x = some v) : Bl (fun b => h.get? b) x v := ⟨mg, mb, T.g, ns_none_of X T.g e, T.b, by rw [T.builtins x hx, hv]⟩
end


end Mine

open Mine
set_option maxRecDepth 100000 in
set_option maxHeartbeats 8000000 in
theorem PySem.Challenge.cw_du0010_01_holds : PySem.Challenge.rw_du0010_01.Holds := by
  w_on
  o_law
  k_head
  case hw => w_witness2
  intro w s₀ s₁ mg mb G Y fa o pm cd doc dV kV ho hd hcd hD hmg hg args vals as hpre hlay hrd hwl hlo
  have KX := kIn_of Y
  refine Ground.open G ?_
  intro T B D TE TW
  have W : Wd (fun b => s₁.heap.get? b) := {
    nolim := T.nolimit
    f1 := fn_of KX (c := 20) rfl rfl rfl rfl
    f2 := fn_of KX (c := 27) rfl rfl rfl rfl
    f3 := fn_of KX (c := 34) rfl rfl rfl rfl
    f4 := fn_of KX (c := 41) rfl rfl rfl rfl
    f5 := fn_of KX (c := 48) rfl rfl rfl rfl
    f6 := fn_of KX (c := 55) rfl rfl rfl rfl
    f7 := fn_of KX (c := 62) rfl rfl rfl rfl
    f8 := fn_of KX (c := 69) rfl rfl rfl rfl
    f9 := fn_of KX (c := 76) rfl rfl rfl rfl
    f10 := fn_of KX (c := 83) rfl rfl rfl rfl
    f12 := fn_of KX (c := 90) rfl rfl rfl rfl
    f13 := fn_of KX (c := 95) rfl rfl rfl rfl
    f14 := fn_of KX (c := 102) rfl rfl rfl rfl
    f15 := fn_of KX (c := 107) rfl rfl rfl rfl
    g1 := gl_of KX T rfl
    g2 := gl_of KX T rfl
    g3 := gl_of KX T rfl
    g4 := gl_of KX T rfl
    g5 := gl_of KX T rfl
    g6 := gl_of KX T rfl
    g7 := gl_of KX T rfl
    g8 := gl_of KX T rfl
    g9 := gl_of KX T rfl
    g10 := gl_of KX T rfl
    g12 := gl_of KX T rfl
    g13 := gl_of KX T rfl
    g14 := gl_of KX T rfl
    g15 := gl_of KX T rfl
    bLen := bl_of KX T rfl (by decide) rfl
    bRange := bl_of KX T rfl (by decide) rfl
    bReversed := bl_of KX T rfl (by decide) rfl
    bAbs := bl_of KX T rfl (by decide) rfl
    bSum := bl_of KX T rfl (by decide) rfl
    bMin := bl_of KX T rfl (by decide) rfl }
  have F : Fn (fun b => s₁.heap.get? b) 113 16 := fn_of KX (c := 112) rfl rfl rfl rfl
  have hlaw : mg (PySem.Str.ofString "law") = some (.ref 113) := mg_of KX T.g rfl
  have hfa : fa = 113 := by
    have e := hmg.symm.trans hlaw
    cases e
    rfl
  subst hfa
  clear hd ho hcd hmg hlaw
  wrow_args hpre hlay hrd hwl hlo
  rename_i xs _ _ _ _ _ _ _ SA vs _ hL _ hw1 _ hI _ hc1 _
  obtain ⟨ns, e, hns⟩ := iv_of hI
  subst e
  have hn63 : ns.length ≤ 63 := by omega
  have hsa : LsB (fun b => s₁.heap.get? b) SA (iv ns) := ls_of rfl hw1 hL (by rw [iv_len]; omega)
  have key := law_ok (prog := PySem.Challenge.rw_du0010_01.row.prog) (w := w) (A := callerA) W F rm_caller hsa hn63
  refine wpAny_mono (key s₁ led_base) ?_ (fun _ _ q => q.elim)
  rintro v s' ⟨sm, rfl, l⟩
  refine GoodW.toG ⟨.inl ⟨.bool true, .bool true, [], rfl, raisesW_false (by wrow_none_raised), .bool true, by wrow_post, ?_⟩, fun b o e => l.kn b o e, sm.2, sm.1.trans hg⟩
  exact fun _ => ⟨List.Pairwise.nil, fun a ha => by cases ha⟩
