import PyProof.Rows.All
import Wide.All
import OpenK.AllK
import Wide.FinOn
import PySem.Challenge.RW_fp5024_01
set_option Elab.async false
set_option linter.unusedVariables false

section THeadT
open PySem PySem.W PyProof.Rows
namespace Mine
set_option maxRecDepth 100000 in
set_option maxHeartbeats 0 in
open_top hd for PySem.Challenge.rw_fp5024_01
end Mine
end THeadT

section TBase
open PySem PySem.W PyProof.Rows
namespace Mine
def Hold (P : Prop) : Prop := P
theorem Hold.out {P : Prop} (h : Hold P) : P := h
theorem Hold.into {P : Prop} (h : P) : Hold P := h
end Mine
end TBase

section TPlain
open PySem PySem.W PyProof.Rows
namespace Mine

/-- the table: the fewest signs put in, left out, turned (and, with sw, neighbours swapped) -/
def dt (sw : Bool) (a b : Nat → Str) : Nat → Nat → Int
  | 0, j => j
  | i + 1, 0 => (i : Int) + 1
  | i + 1, j + 1 =>
    let m := min (min (dt sw a b i (j + 1) + 1) (dt sw a b (i + 1) j + 1)) (dt sw a b i j + if a i = b j then 0 else 1)
    match i, j with
    | i' + 1, j' + 1 => if sw = true ∧ a (i' + 1) = b j' ∧ a i' = b (j' + 1) then min m (dt sw a b i' j' + 1) else m
    | _, _ => m
termination_by i j => i + j

variable {sw : Bool} {a b : Nat → Str}
theorem dt_0 (j : Nat) : dt sw a b 0 j = j := by rw [dt]
theorem dt_s0 (i : Nat) : dt sw a b (i + 1) 0 = (i : Int) + 1 := by rw [dt]
theorem dt_i0 (i : Nat) : dt sw a b i 0 = (i : Int) := by cases i with
  | zero => rw [dt_0]
  | succ i => rw [dt_s0]; omega
/-- three ways -/
def w3 (sw : Bool) (a b : Nat → Str) (i j : Nat) : Int := min (min (dt sw a b i (j + 1) + 1) (dt sw a b (i + 1) j + 1)) (dt sw a b i j + if a i = b j then 0 else 1)
theorem dt_10 (j : Nat) : dt sw a b 1 (j + 1) = w3 sw a b 0 j := by
  rw [dt]
  · simp only [w3]
  · intro _ _ h; cases h
theorem dt_i1 (i : Nat) : dt sw a b (i + 1) 1 = w3 sw a b i 0 := by
  rw [dt]
  · simp only [w3]
  · intro _ _ _ h; cases h
theorem dt_ss (i j : Nat) : dt sw a b (i + 2) (j + 2) = if sw = true ∧ a (i + 1) = b j ∧ a i = b (j + 1) then min (w3 sw a b (i + 1) (j + 1)) (dt sw a b i j + 1) else w3 sw a b (i + 1) (j + 1) := by
  rw [dt]; simp only [w3]
theorem dt_le_w3 (i j : Nat) : dt sw a b (i + 1) (j + 1) ≤ w3 sw a b i j := by
  cases i with
  | zero => rw [dt_10]; exact Int.le_refl _
  | succ i => cases j with
    | zero => rw [dt_i1]; exact Int.le_refl _
    | succ j => rw [dt_ss]; split <;> omega
theorem dt_cases (i j : Nat) : dt sw a b (i + 1) (j + 1) = w3 sw a b i j ∨ ∃ i' j', i = i' + 1 ∧ j = j' + 1 ∧ sw = true ∧ a (i' + 1) = b j' ∧ a i' = b (j' + 1) ∧ dt sw a b (i + 1) (j + 1) = dt sw a b i' j' + 1 := by
  cases i with
  | zero => exact .inl (dt_10 j)
  | succ i => cases j with
    | zero => exact .inl (dt_i1 _)
    | succ j =>
      rw [dt_ss]
      split
      · rename_i h
        by_cases hm : w3 sw a b (i + 1) (j + 1) ≤ dt sw a b i j + 1
        · exact .inl (by omega)
        · exact .inr ⟨i, j, rfl, rfl, h.1, h.2.1, h.2.2, by omega⟩
      · exact .inl rfl
theorem dt_up (i j : Nat) : dt sw a b (i + 1) j ≤ dt sw a b i j + 1 := by
  cases j with
  | zero => rw [dt_i0, dt_i0]; omega
  | succ j => have h := dt_le_w3 (sw := sw) (a := a) (b := b) i j; unfold w3 at h; omega
theorem dt_right (i j : Nat) : dt sw a b i (j + 1) ≤ dt sw a b i j + 1 := by
  cases i with
  | zero => rw [dt_0, dt_0]; omega
  | succ i => have h := dt_le_w3 (sw := sw) (a := a) (b := b) i j; unfold w3 at h; omega
theorem dt_diag (i j : Nat) : dt sw a b (i + 1) (j + 1) ≤ dt sw a b i j + 1 := by
  have q1 := dt_le_w3 (sw := sw) (a := a) (b := b) i j
  unfold w3 at q1
  split at q1 <;> omega
theorem dt_lip : ∀ n i j, i + j ≤ n → dt sw a b i j ≤ dt sw a b (i + 1) j + 1 ∧ dt sw a b i j ≤ dt sw a b i (j + 1) + 1 := by
  intro n
  induction n with
  | zero =>
    intro i j h
    obtain rfl : i = 0 := by omega
    obtain rfl : j = 0 := by omega
    rw [dt_0, dt_i0, dt_0]; omega
  | succ n ih =>
    intro i j h
    constructor
    · cases j with
      | zero => rw [dt_i0, dt_i0]; omega
      | succ j =>
        have h1 := dt_right (sw := sw) (a := a) (b := b) i j
        have h2 := (ih i j (by omega)).1
        rcases dt_cases (sw := sw) (a := a) (b := b) i j with e | ⟨i', j', rfl, rfl, _, _, _, e⟩
        · rw [e]; unfold w3; split <;> omega
        · rw [e]
          have h3 := dt_diag (sw := sw) (a := a) (b := b) i' j'
          have h4 := dt_right (sw := sw) (a := a) (b := b) (i' + 1) (j' + 1)
          omega
    · cases i with
      | zero => rw [dt_0, dt_0]; omega
      | succ i =>
        have h1 := dt_up (sw := sw) (a := a) (b := b) i j
        have h2 := (ih i j (by omega)).2
        rcases dt_cases (sw := sw) (a := a) (b := b) i j with e | ⟨i', j', rfl, rfl, _, _, _, e⟩
        · rw [e]; unfold w3; split <;> omega
        · rw [e]
          have h3 := dt_diag (sw := sw) (a := a) (b := b) i' j'
          have h4 := dt_up (sw := sw) (a := a) (b := b) (i' + 1) (j' + 1)
          omega
/-- like signs: the diagonal is best -/
theorem dt_eq {i j : Nat} (h : a i = b j) : dt sw a b (i + 1) (j + 1) = dt sw a b i j := by
  have h1 := (dt_lip (sw := sw) (a := a) (b := b) (i + j) i j (Nat.le_refl _))
  have h5 := dt_le_w3 (sw := sw) (a := a) (b := b) i j
  have h6 : w3 sw a b i j = dt sw a b i j := by
    unfold w3; rw [if_pos h]; 
    have := (dt_lip (sw := sw) (a := a) (b := b) (i + j) i j (Nat.le_refl _))
    omega
  rcases dt_cases (sw := sw) (a := a) (b := b) i j with e | ⟨i', j', rfl, rfl, _, _, _, e⟩
  · rw [e, h6]
  · rw [e]
    have h3 := dt_up (sw := sw) (a := a) (b := b) i' j'
    have h4 := dt_right (sw := sw) (a := a) (b := b) (i' + 1) j'
    have q := dt_diag (sw := sw) (a := a) (b := b) i' j'
    omega
theorem dt_ne {i j : Nat} (h : ¬ a i = b j) : w3 sw a b i j = min (min (dt sw a b i j) (dt sw a b (i + 1) j)) (dt sw a b i (j + 1)) + 1 := by
  unfold w3; rw [if_neg h]; omega
theorem dtF {i j : Nat} : dt false a b (i + 1) (j + 1) = w3 false a b i j := by
  rcases dt_cases (sw := false) (a := a) (b := b) i j with e | ⟨i', j', rfl, rfl, h, _⟩
  · exact e
  · cases h

/-- a row of the table, as a list of ints -/
def Row (D : Nat → Nat → Int) (n i : Nat) (ns : List Int) : Prop := ns.length = n ∧ ∀ q, q < n → ns.getD q 0 = D i (q + 1)
def LO (D : Nat → Nat → Int) (n i : Nat) (cur : Int) (ns : List Int) : Prop := Row D n i ns ∧ (1 ≤ i → cur = D i n)
def LI (D : Nat → Nat → Int) (n i j : Nat) (cur left above : Int) (ns : List Int) : Prop :=
  ns.length = n ∧ (∀ q, q < n → ns.getD q 0 = if q < j then D (i + 1) (q + 1) else D i (q + 1)) ∧ left = D i j ∧ above = (if j = 0 then (i : Int) else D (i + 1) j) ∧ (1 ≤ j → cur = D (i + 1) j)
theorem LI.start {n i : Nat} {cur : Int} {ns : List Int} {c : Int} {k : Int} (h : LO (dt sw a b) n i c ns) (hk : k = i) : LI (dt sw a b) n i 0 cur k k ns := by
  obtain ⟨⟨h1, h2⟩, _⟩ := h
  refine ⟨h1, fun q hq => ?_, ?_, ?_, fun h => absurd h (by omega)⟩
  · rw [if_neg (by omega)]; exact h2 q hq
  · rw [dt_i0, hk]
  · rw [if_pos rfl, hk]
theorem LI.out {n i j : Nat} {cur left above : Int} {ns : List Int} {D : Nat → Nat → Int} (h : LI D n i j cur left above ns) (hj : j = n) (hn : 1 ≤ n) : LO D n (i + 1) cur ns := by
  subst hj
  obtain ⟨h1, h2, h3, h4, h5⟩ := h
  exact ⟨⟨h1, fun q hq => by rw [h2 q hq, if_pos hq]⟩, fun _ => h5 hn⟩
theorem LI.next {n i j : Nat} {cur left above v : Int} {ns : List Int} {D : Nat → Nat → Int} (h : LI D n i j cur left above ns) (hj : j < n) (hv : v = D (i + 1) (j + 1)) : LI D n i (j + 1) v (ns.getD j 0) v (ns.set j v) := by
  obtain ⟨h1, h2, h3, h4, h5⟩ := h
  refine ⟨by rw [List.length_set, h1], fun q hq => ?_, ?_, ?_, fun _ => hv⟩
  · by_cases e : q = j
    · subst e
      rw [if_pos (by omega), ← hv]
      simp [List.getD, h1, hj]
    · have e1 : (ns.set j v).getD q 0 = ns.getD q 0 := by
        simp only [List.getD]
        rw [List.getElem?_set_ne (Ne.symm e)]
      rw [e1, h2 q hq]
      by_cases h6 : q < j
      · rw [if_pos h6, if_pos (by omega)]
      · rw [if_neg h6, if_neg (by omega)]
  · rw [h2 j hj, if_neg (by omega)]
  · rw [if_neg (by omega), hv]
/-- the value of a turn without swaps -/
theorem LI.val {n i j : Nat} {cur left above : Int} {ns : List Int} (h : LI (dt sw a b) n i j cur left above ns) (hj : j < n) :
    (a i = b j → left = dt sw a b (i + 1) (j + 1)) ∧ (¬ a i = b j → min (min left above) (ns.getD j 0) + 1 = w3 sw a b i j) := by
  obtain ⟨h1, h2, h3, h4, h5⟩ := h
  refine ⟨fun e => by rw [dt_eq e, h3], fun e => ?_⟩
  rw [dt_ne e, h2 j hj, if_neg (by omega), h3, h4]
  by_cases hj0 : j = 0
  · subst hj0; rw [if_pos rfl, dt_i0, dt_i0]; omega
  · rw [if_neg hj0]
theorem LO.start {n : Nat} {cur : Int} {ns : List Int} (h1 : ns.length = n) (h2 : ∀ q, q < n → ns.getD q 0 = (q : Int) + 1) : LO (dt sw a b) n 0 cur ns :=
  ⟨⟨h1, fun q hq => by rw [h2 q hq, dt_0]; omega⟩, fun h => absurd h (by omega)⟩
end Mine
namespace Mine
def sg (x : Str) (k : Nat) (i : Nat) : Str := Txt.item x ((k : Int) + (i : Int))
theorem rk_getD (n q : Nat) (hq : q < n) : (List.map (fun k' => k' + 1) (rangeKs 0 n)).getD q 0 = (q : Int) + 1 := by
  simp [rangeKs, List.getD, hq]
section
variable {sw : Bool} {a b : Nat → Str} {D : Nat → Nat → Int}
theorem lev_start (n2 : Nat) (c : Int) : (List.map (fun k' => k' + 1) (rangeKs 0 ((n2 : Int) - 0).toNat)).length = n2 ∧ LO (dt sw a b) n2 ([] : List Int).length c (List.map (fun k' => k' + 1) (rangeKs 0 ((n2 : Int) - 0).toNat)) := by
  have e : ((n2 : Int) - 0).toNat = n2 := by omega
  rw [e]
  have h : (List.map (fun k' => k' + 1) (rangeKs 0 n2)).length = n2 := by rw [List.length_map, rangeKs_length]
  exact ⟨h, LO.start h fun q hq => rk_getD n2 q hq⟩
theorem lev_in {n1 n2 p : Nat} {ns : List Int} {k c cur : Int} (h : LO (dt sw a b) n2 p c ns) (hl : ns.length = n2) (hk : k = 0 + (p : Int)) (hp : p < ((n1 : Int) - 0).toNat) :
    ns.length = n2 ∧ 0 ≤ k ∧ k < (n1 : Int) ∧ LI (dt sw a b) n2 k.toNat ([] : List Int).length cur k k ns := by
  have e : k.toNat = p := by omega
  exact ⟨hl, by omega, by omega, by rw [e]; exact LI.start h (by omega)⟩
theorem lev_eq {x y : Str} {st n1 n2 : Nat} {pre ns : List Int} {k i cur left above : Int} (h : LI (dt sw (sg x st) (sg y st)) n2 i.toNat pre.length cur left above ns) (he : (Txt.item y ((st : Int) + k) != Txt.item x ((st : Int) + i)) = false) (hl : ns.length = n2) (h0 : 0 ≤ i) (h1 : i < (n1 : Int)) (hk : k = 0 + (pre.length : Int)) (hp : pre.length < ((n2 : Int) - 0).toNat) :
    (ns.set k.toNat left).length = n2 ∧ 0 ≤ i ∧ i < (n1 : Int) ∧ LI (dt sw (sg x st) (sg y st)) n2 i.toNat (pre ++ [k]).length left (ns.getD k.toNat 0) left (ns.set k.toNat left) := by
  have e : k.toNat = pre.length := by omega
  have hj : pre.length < n2 := by omega
  have he' : sg x st i.toNat = sg y st pre.length := by
    have q : Txt.item y ((st : Int) + k) = Txt.item x ((st : Int) + i) := by simpa using he
    unfold sg
    rw [show ((i.toNat : Nat) : Int) = i by omega, show ((pre.length : Nat) : Int) = k by omega]
    exact q.symm
  refine ⟨by rw [List.length_set, hl], h0, h1, ?_⟩
  rw [e, List.length_append]
  exact h.next hj ((h.val hj).1 he')
theorem lev_ne {x y : Str} {st n1 n2 : Nat} {pre ns : List Int} {k i cur left above v : Int} (h : LI (dt false (sg x st) (sg y st)) n2 i.toNat pre.length cur left above ns) (he : (Txt.item y ((st : Int) + k) != Txt.item x ((st : Int) + i)) = true) (hv : v = min (min left above) (ns.getD k.toNat 0) + 1) (hl : ns.length = n2) (h0 : 0 ≤ i) (h1 : i < (n1 : Int)) (hk : k = 0 + (pre.length : Int)) (hp : pre.length < ((n2 : Int) - 0).toNat) :
    (ns.set k.toNat v).length = n2 ∧ 0 ≤ i ∧ i < (n1 : Int) ∧ LI (dt false (sg x st) (sg y st)) n2 i.toNat (pre ++ [k]).length v (ns.getD k.toNat 0) v (ns.set k.toNat v) := by
  have e : k.toNat = pre.length := by omega
  have hj : pre.length < n2 := by omega
  have he' : ¬ sg x st i.toNat = sg y st pre.length := by
    have q : ¬ Txt.item y ((st : Int) + k) = Txt.item x ((st : Int) + i) := by simpa using he
    unfold sg
    rw [show ((i.toNat : Nat) : Int) = i by omega, show ((pre.length : Nat) : Int) = k by omega]
    exact fun z => q z.symm
  refine ⟨by rw [List.length_set, hl], h0, h1, ?_⟩
  rw [e] at hv ⊢
  rw [List.length_append]
  exact h.next hj (by rw [hv, (h.val hj).2 he', dtF])
theorem lev_out {n2 : Nat} {pre ns : List Int} {k cur left above : Int} (h : LI D n2 k.toNat (rangeKs 0 ((n2 : Int) - 0).toNat).length cur left above ns) (hl : ns.length = n2) (hk : k = 0 + (pre.length : Int)) (hn : 1 ≤ n2) :
    ns.length = n2 ∧ LO D n2 (pre ++ [k]).length cur ns := by
  have e : k.toNat = pre.length := by omega
  rw [e] at h
  rw [List.length_append]
  exact ⟨hl, h.out (by rw [rangeKs_length]; omega) hn⟩
theorem lev_end {n1 n2 : Nat} {ns : List Int} {cur : Int} (h : LO D n2 (rangeKs 0 ((n1 : Int) - 0).toNat).length cur ns) (h1 : 1 ≤ n1) : cur = D n1 n2 := by
  have e : (rangeKs 0 ((n1 : Int) - 0).toNat).length = n1 := by rw [rangeKs_length]; omega
  rw [e] at h
  exact h.2 h1
theorem off1_all {D : Addr} : ∀ {l : List (Addr × Obj)}, LCg.Off1 D l → ∀ p ∈ l, p.1 ≠ D
  | [], _, _, hp => (nomatch hp)
  | q :: r, h, p, hp => by
    rcases List.mem_cons.mp hp with rfl | hp
    · exact h.1
    · exact off1_all h.2 p hp
end
end Mine
namespace Mine
def OO (D : Nat → Nat → Int) (x : Str) (st n i : Nat) (c1 : Str) (cur : Int) (ns ps : List Int) : Prop :=
  LO D n i cur ns ∧ (1 ≤ i → c1 = sg x st (i - 1)) ∧ (1 ≤ i → ∀ q, q < n → ps.getD q 0 = D (i - 1) q)
def IO (D : Nat → Nat → Int) (y : Str) (st n i j : Nat) (cur left above next : Int) (c2 : Str) (ns ps : List Int) : Prop :=
  LI D n i j cur left above ns ∧ (1 ≤ i → 1 ≤ j → next = D (i - 1) (j - 1)) ∧ (1 ≤ j → c2 = sg y st (j - 1)) ∧ (∀ q, q < n → (q < j → ps.getD q 0 = D i q) ∧ (j ≤ q → 1 ≤ i → ps.getD q 0 = D (i - 1) q))
end Mine
namespace Mine
def swB (i j : Int) (c1 p2 p1 c2 : Str) (th cur : Int) : Bool := (i != 0) && ((j != 0) && ((c1 == p2) && ((p1 == c2) && decide (th + 1 < cur))))
section
variable {i j th cur : Int} {c1 p2 p1 c2 : Str}
theorem sw_f1 (h : i = 0) : false = swB i j c1 p2 p1 c2 th cur := by unfold swB; rw [h]; rfl
theorem sw_f2 (h : j = 0) : false = swB i j c1 p2 p1 c2 th cur := by unfold swB; rw [h]; simp
theorem sw_f3 (h : (c1 == p2) = false) : false = swB i j c1 p2 p1 c2 th cur := by unfold swB; rw [h]; simp
theorem sw_f4 (h : (p1 == c2) = false) : false = swB i j c1 p2 p1 c2 th cur := by unfold swB; rw [h]; simp
theorem sw_f5 (h : ¬ th + 1 < cur) : false = swB i j c1 p2 p1 c2 th cur := by unfold swB; rw [decide_eq_false h]; simp
theorem sw_t (h1 : i ≠ 0) (h2 : j ≠ 0) (h3 : (c1 == p2) = true) (h4 : (p1 == c2) = true) (h5 : th + 1 < cur) : true = swB i j c1 p2 p1 c2 th cur := by unfold swB; rw [h3, h4, decide_eq_true h5]; simp [h1, h2]
section
variable {M : Model} {A : Around} {E : Value → Shared → Prop} {s : Shared} {env : Env} {h₀ : Heap} {L : Addr} {m : Str → Option Value} {news : List (Addr × Obj)}
theorem swapIf {test : Expr} {p q pos : Pos} {e : Expr} {v : Int} {ti tj t1 t2 t3 t4 t5 t6 : Tok} {Q : Flow → Shared → Prop} (F : Fr h₀ L s.heap m) (N : News h₀ L s.heap news)
    (hi : m (Str.ofString "i") = some (.int i ti)) (hj : m (Str.ofString "j") = some (.int j tj)) (h1 : m (Str.ofString "char_1") = some (.str c1 t1)) (h2 : m (Str.ofString "prev_char_2") = some (.str p2 t2))
    (h3 : m (Str.ofString "prev_char_1") = some (.str p1 t3)) (h4 : m (Str.ofString "char_2") = some (.str c2 t4)) (h5 : m (Str.ofString "this_trans_cost") = some (.int th t5)) (hold : m (Str.ofString "current_cost") = some (.int cur t6))
    (hc : wpAny M A (isTrue test env (eval test env)) (fun k s₂ => KJoinC (swB i j c1 p2 p1 c2 th cur) h₀ L m news s k s₂) E s)
    (hv : KJoinB1 (swB i j c1 p2 p1 c2 th cur = true → ∀ s₂, KJoinAt h₀ L m news s s₂ → wpAny M A (exec (.Assign [.Name (Str.ofString "current_cost") p] e q) env) (fun f s₃ => KJoinV (Str.ofString "current_cost") v h₀ L m news s f s₃) E s₂))
    (hk : KJoinB2 (∀ (r : Int) (t : Tok) (s₃ : Shared), (swB i j c1 p2 p1 c2 th cur = true ∧ r = v) ∨ (swB i j c1 p2 p1 c2 th cur = false ∧ r = cur) → KJoinAt h₀ L (fun y => if y = (Str.ofString "current_cost") then some (.int r t) else m y) news s s₃ → Q .next s₃)) :
    wpAny M A (exec (.If test [.Assign [.Name (Str.ofString "current_cost") p] e q] [] pos) env) Q E s := kj_if_gen hold hc hv hk
end
end
end Mine

namespace Mine
theorem off1_all2 {D : Addr} {P : Prop} {l : List (Addr × Obj)} (h : P ∧ LCg.Off1 D l) : ∀ p ∈ l, p.1 ≠ D := off1_all h.2
section
variable {sw : Bool} {a b : Nat → Str} {D : Nat → Nat → Int}
theorem osa_start {x : Str} {st n2 : Nat} {c : Int} {c1 : Str} {ps : List Int} (hp : ps.length = n2) : (List.map (fun k' => k' + 1) (rangeKs 0 ((n2 : Int) - 0).toNat)).length = n2 ∧ ps.length = n2 ∧ OO (dt sw a b) x st n2 ([] : List Int).length c1 c (List.map (fun k' => k' + 1) (rangeKs 0 ((n2 : Int) - 0).toNat)) ps :=
  ⟨(lev_start (sw := sw) (a := a) (b := b) n2 c).1, hp, (lev_start n2 c).2, fun h => absurd h (by decide), fun h => absurd h (by decide)⟩
theorem osa_in {x y : Str} {st n1 n2 p : Nat} {ns ps : List Int} {k c cur nx : Int} {c1 c2 : Str} (h : OO (dt sw a b) x st n2 p c1 c ns ps) (hl : ns.length = n2) (hpl : ps.length = n2) (hk : k = 0 + (p : Int)) (hp : p < ((n1 : Int) - 0).toNat) :
    ns.length = n2 ∧ ps.length = n2 ∧ 0 ≤ k ∧ k < (n1 : Int) ∧ IO (dt sw a b) y st n2 k.toNat ([] : List Int).length cur k k nx c2 ns ps := by
  have e : k.toNat = p := by omega
  refine ⟨hl, hpl, by omega, by omega, ?_⟩
  rw [e]
  exact ⟨LI.start h.1 (by omega), fun _ h => absurd h (by decide), fun h => absurd h (by decide), fun q hq => ⟨fun h => absurd h (by simp), fun _ hi => h.2.2 hi q hq⟩⟩
theorem osa_turn {y : Str} {st n1 n2 : Nat} {pre ns ps : List Int} {k i cur left above next v : Int} {c2 : Str} (h : IO (dt true a b) y st n2 i.toNat pre.length cur left above next c2 ns ps) (hv : v = dt true a b (i.toNat + 1) (pre.length + 1)) (hl : ns.length = n2) (hpl : ps.length = n2) (h0 : 0 ≤ i) (h1 : i < (n1 : Int)) (hk : k = 0 + (pre.length : Int)) (hp : pre.length < ((n2 : Int) - 0).toNat) :
    (ns.set k.toNat v).length = n2 ∧ (ps.set k.toNat left).length = n2 ∧ 0 ≤ i ∧ i < (n1 : Int) ∧ IO (dt true a b) y st n2 i.toNat (pre ++ [k]).length v (ns.getD k.toNat 0) v (ps.getD k.toNat 0) (Txt.item y ((st : Int) + k)) (ns.set k.toNat v) (ps.set k.toNat left) := by
  have e : k.toNat = pre.length := by omega
  have hj : pre.length < n2 := by omega
  refine ⟨by rw [List.length_set, hl], by rw [List.length_set, hpl], h0, h1, ?_⟩
  rw [e, List.length_append]
  obtain ⟨g1, g2, g3, g4⟩ := h
  refine ⟨g1.next hj hv, fun hi _ => ?_, fun _ => ?_, fun q hq => ?_⟩
  · exact (g4 _ hj).2 (Nat.le_refl _) hi
  · unfold sg
    rw [show ((([k] : List Int).length : Nat)) = 1 from rfl, Nat.add_sub_cancel, show ((pre.length : Nat) : Int) = k by omega]
  · have eg : q ≠ pre.length → (ps.set pre.length left).getD q 0 = ps.getD q 0 := fun en => by
      simp only [List.getD]
      rw [List.getElem?_set_ne (Ne.symm en)]
    constructor
    · intro hq2
      rw [show ((([k] : List Int).length : Nat)) = 1 from rfl] at hq2
      by_cases en : q = pre.length
      · subst en
        rw [← g1.2.2.1]
        simp [List.getD, hpl, hj]
      · rw [eg en]; exact (g4 q hq).1 (by omega)
    · intro hq2 hi
      rw [show ((([k] : List Int).length : Nat)) = 1 from rfl] at hq2
      rw [eg (by omega)]; exact (g4 q hq).2 (by omega) hi
theorem osa_eqv {x y : Str} {st n2 : Nat} {pre ns ps : List Int} {k i cur left above next : Int} {c2 : Str} (h : IO (dt true (sg x st) (sg y st)) y st n2 i.toNat pre.length cur left above next c2 ns ps) (he : (Txt.item x ((st : Int) + i) != Txt.item y ((st : Int) + k)) = false) (h0 : 0 ≤ i) (hk : k = 0 + (pre.length : Int)) (hp : pre.length < ((n2 : Int) - 0).toNat) :
    left = dt true (sg x st) (sg y st) (i.toNat + 1) (pre.length + 1) := by
  have hj : pre.length < n2 := by omega
  refine (h.1.val hj).1 ?_
  have q : Txt.item x ((st : Int) + i) = Txt.item y ((st : Int) + k) := by simpa using he
  unfold sg
  rw [show ((i.toNat : Nat) : Int) = i by omega, show ((pre.length : Nat) : Int) = k by omega]
  exact q
theorem min_two {left above g r1 r2 : Int} (h1 : (above < left ∧ r1 = above) ∨ (¬ above < left ∧ r1 = left)) (h2 : (g < r1 ∧ r2 = g) ∨ (¬ g < r1 ∧ r2 = r1)) : r2 + 1 = min (min left above) g + 1 := by omega
theorem osa_nev {x y : Str} {st n2 p : Nat} {pre ns ps ns0 ps0 : List Int} {k i cur left above next c0 r v : Int} {c1 c2 : Str} (h : IO (dt true (sg x st) (sg y st)) y st n2 i.toNat pre.length cur left above next c2 ns ps) (ho : OO (dt true (sg x st) (sg y st)) x st n2 p c1 c0 ns0 ps0) (hip : i = 0 + (p : Int)) (he : (Txt.item x ((st : Int) + i) != Txt.item y ((st : Int) + k)) = true)
    (hs : (swB i k (Txt.item x ((st : Int) + i)) c2 c1 (Txt.item y ((st : Int) + k)) next r = true ∧ v = next + 1) ∨ (swB i k (Txt.item x ((st : Int) + i)) c2 c1 (Txt.item y ((st : Int) + k)) next r = false ∧ v = r))
    (hr : r = min (min left above) (ns.getD k.toNat 0) + 1)
    (h0 : 0 ≤ i) (hk : k = 0 + (pre.length : Int)) (hp : pre.length < ((n2 : Int) - 0).toNat) :
    v = dt true (sg x st) (sg y st) (i.toNat + 1) (pre.length + 1) := by
  have hj : pre.length < n2 := by omega
  have e : k.toNat = pre.length := by omega
  have ei : i.toNat = p := by omega
  have he' : ¬ sg x st i.toNat = sg y st pre.length := by
    have q : ¬ Txt.item x ((st : Int) + i) = Txt.item y ((st : Int) + k) := by simpa using he
    unfold sg
    rw [show ((i.toNat : Nat) : Int) = i by omega, show ((pre.length : Nat) : Int) = k by omega]
    exact q
  rw [e] at hr
  have hw := (h.1.val hj).2 he'
  rw [← hr] at hw
  obtain ⟨g1, g2, g3, g4⟩ := h
  obtain ⟨_, o2, _⟩ := ho
  have c1e : Txt.item x ((st : Int) + i) = sg x st i.toNat := by unfold sg; rw [show ((i.toNat : Nat) : Int) = i by omega]
  have c2e : Txt.item y ((st : Int) + k) = sg y st pre.length := by unfold sg; rw [show ((pre.length : Nat) : Int) = k by omega]
  rw [c1e, c2e] at hs
  by_cases hi0 : i.toNat = 0
  · have hs2 : v = r := by
      rcases hs with ⟨q, _⟩ | ⟨_, q⟩
      · exfalso; unfold swB at q; rw [show i = 0 by omega] at q; simp at q
      · exact q
    rw [hs2, hw, hi0, dt_10]
  · by_cases hj0 : pre.length = 0
    · have hs2 : v = r := by
        rcases hs with ⟨q, _⟩ | ⟨_, q⟩
        · exfalso; unfold swB at q; rw [show k = 0 by omega] at q; simp at q
        · exact q
      rw [hs2, hw, hj0, dt_i1]
    · obtain ⟨i', hi'⟩ : ∃ i', i.toNat = i' + 1 := ⟨i.toNat - 1, by omega⟩
      obtain ⟨j', hj'⟩ : ∃ j', pre.length = j' + 1 := ⟨pre.length - 1, by omega⟩
      have gn := g2 (by omega) (by omega)
      have gc := g3 (by omega)
      have oc := o2 (by omega)
      rw [← ei] at oc
      rw [hi', hj'] at hs hw gn
      rw [hi'] at oc
      rw [hj'] at gc
      simp only [Nat.add_sub_cancel] at gn gc oc
      subst gc oc
      rw [hi', hj', dt_ss, ← hw, ← gn]
      have hsw : swB i k (sg x st (i' + 1)) (sg y st j') (sg x st i') (sg y st (j' + 1)) next r = true ↔ (sg x st (i' + 1) = sg y st j' ∧ sg x st i' = sg y st (j' + 1)) ∧ next + 1 < r := by
        unfold swB
        simp only [Bool.and_eq_true, bne_iff_ne, beq_iff_eq, decide_eq_true_eq]
        constructor
        · rintro ⟨_, _, q1, q2, q3⟩; exact ⟨⟨q1, q2⟩, q3⟩
        · rintro ⟨⟨q1, q2⟩, q3⟩; exact ⟨by omega, by omega, q1, q2, q3⟩
      rcases hs with ⟨q, rfl⟩ | ⟨q, rfl⟩
      · obtain ⟨q1, q2⟩ := hsw.mp q
        rw [if_pos ⟨rfl, q1⟩]; omega
      · by_cases q1 : sg x st (i' + 1) = sg y st j' ∧ sg x st i' = sg y st (j' + 1)
        · rw [if_pos ⟨rfl, q1⟩]
          have q2 : ¬ next + 1 < v := fun z => by rw [hsw.mpr ⟨q1, z⟩] at q; cases q
          omega
        · rw [if_neg (fun z => q1 z.2)]
theorem osa_out {x y : Str} {st n2 : Nat} {pre ns ps : List Int} {k cur left above next : Int} {c2 : Str} (h : IO D y st n2 k.toNat (rangeKs 0 ((n2 : Int) - 0).toNat).length cur left above next c2 ns ps) (hl : ns.length = n2) (hpl : ps.length = n2) (hk : k = 0 + (pre.length : Int)) (hn : 1 ≤ n2) :
    ns.length = n2 ∧ ps.length = n2 ∧ OO D x st n2 (pre ++ [k]).length (Txt.item x ((st : Int) + k)) cur ns ps := by
  have e : k.toNat = pre.length := by omega
  have el : (rangeKs 0 ((n2 : Int) - 0).toNat).length = n2 := by rw [rangeKs_length]; omega
  rw [e, el] at h
  rw [List.length_append]
  obtain ⟨g1, g2, g3, g4⟩ := h
  refine ⟨hl, hpl, g1.out rfl hn, fun _ => ?_, fun _ q hq => ?_⟩
  · unfold sg
    rw [show ((([k] : List Int).length : Nat)) = 1 from rfl, Nat.add_sub_cancel, show ((pre.length : Nat) : Int) = k by omega]
  · rw [show ((([k] : List Int).length : Nat)) = 1 from rfl, Nat.add_sub_cancel]
    exact (g4 q hq).1 hq
theorem osa_end {x : Str} {st n1 n2 : Nat} {ns ps : List Int} {cur : Int} {c1 : Str} (h : OO D x st n2 (rangeKs 0 ((n1 : Int) - 0).toNat).length c1 cur ns ps) (h1 : 1 ≤ n1) : cur = D n1 n2 := lev_end h.1 h1
end
end Mine
namespace Mine
theorem four_pow_ne (k : Nat) : (4 : Int) ^ k ≠ 0 := by
  induction k with
  | zero => decide
  | succ k ih => rw [Int.pow_succ]; omega
end Mine
namespace Mine
theorem four_pow_small {k : Int} (h : k < 8) : ((4 : Int) ^ k.toNat).natAbs < 1073741824 := by
  have h' : k.toNat < 8 := by omega
  generalize k.toNat = n at h'
  have : n = 0 ∨ n = 1 ∨ n = 2 ∨ n = 3 ∨ n = 4 ∨ n = 5 ∨ n = 6 ∨ n = 7 := by omega
  rcases this with rfl | rfl | rfl | rfl | rfl | rfl | rfl | rfl <;> decide
end Mine
end TPlain

section TLevC
open PySem PySem.W PyProof.Rows
namespace Mine
local macro_rules | `(tactic| k_all) => `(tactic| first | exact off1_all (by assumption) | (refine List.forall_mem_append.mpr ⟨?ka, ?kb⟩; (case ka => k_all); (case kb => k_all)))
local macro_rules | `(tactic| walk_at "exec If") => `(tactic| (k_here; (with_reducible show wpAny _ _ (exec (Stmt.If (Expr.Compare _ _ _ _) [Stmt.Assign _ _ _] [] _) _) _ _ _); kj_step))
set_option maxRecDepth 100000 in
set_option maxHeartbeats 0 in
theorem lev : ∀ (w : World) (mean : ExcName → Option Value) (mg mb : Str → Option Value)
   (dp un : Nat) (gd : Option (List Code)) (cn : Str) (cs : Scope) (a : Addr) (ccd : Value) (cl : List (Str × Addr)) (outer : List Env) (A₀ : Around) (base h₀ : Heap) (L : Addr) (m : Str → Option Value) (s : Shared) (Q E : Value → Shared → Prop)
   (news : List (Addr × Obj)) (x y : Str) (tx ty : Tok) (n1 n2 st : Nat) (t1 t2 t3 : Tok) (cc : Value)
   (B : Below A₀ base outer h₀) (F : Fr h₀ L s.heap m) (X : (hd.heap_39 w.params).In h₀) (N : News h₀ L s.heap news)
   (T : Top hd.view_39 (looseW hd.view_39 [Str.ofString "Levenshtein", Str.ofString "DamerauOsa"]) mean mg mb h₀)
   (hk : cs.kind = .function) (hdp : dp + 10 < recursionLimit) (hun : un + 100 < cLine)
   (h1 : 1 ≤ n1) (h1' : n1 ≤ 7) (h2 : 1 ≤ n2) (h2' : n2 ≤ 7) (hst : st ≤ 3) (hx : st + n1 ≤ x.length) (hy : st + n2 ≤ y.length) (hxs : x.length ≤ 20) (hys : y.length ≤ 20)
   (hret : ∀ (t : Tok) (h' : Heap) (tk' : Nat), Fr h₀ L h' m → News h₀ L h' news → Q (.int (dt false (sg x st) (sg y st) n1 n2) t) { s with heap := h', toks := tk' }),
   wpAny (model PySem.Challenge.rw_fp5024_01.row.prog w) (ktrTop dp un gd cn cs L a ccd cl outer) (call (.ref 73) [.str x tx, .str y ty, .int n1 t1, .int n2 t2, .int st t3, cc]) Q E s := by
  k_with_none
  w_top off
  k_fill
  intro w mean mg mb dp un gd cn cs a ccd cl outer A₀ base h₀ L m s Q E news x y tx ty n1 n2 st t1 t2 t3 cc B F X N T hk hdp hun h1 h1' h2 h2' hst hx hy hxs hys hret
  k_with "pyIter ref" => (k_of "i" => k_state (fun pre cur costs => costs.length = n2 ∧ LO (dt false (sg x st) (sg y st)) n2 pre.length cur costs) "current_cost" "char_1_costs")
  k_with "pyIter ref" => (k_of "j" => k_state_given ["i"] (fun i pre cur left above costs => costs.length = n2 ∧ 0 ≤ i ∧ i < n1 ∧ LI (dt false (sg x st) (sg y st)) n2 i.toNat pre.length cur left above costs) "current_cost" "left_char_cost" "above_char_cost" "char_1_costs")
  k_with "state" => (first
    | exact lev_start _ _
    | exact lev_in (by assumption) (by assumption) (by assumption) (by assumption)
    | exact lev_eq (by assumption) (by assumption) (by assumption) (by assumption) (by assumption) (by assumption) (by assumption)
    | exact lev_ne (by assumption) (by assumption) (by omega) (by assumption) (by assumption) (by assumption) (by assumption) (by assumption)
    | exact lev_out (by assumption) (by assumption) (by assumption) (by assumption))
  refine wpAny_call ?_
  k_dflt cell_enter
  k_steps
  refine cb_retI (Q := Q) hret ?e1 ?e2 ?e3
  case e1 => exact lev_end (by assumption) (by assumption)
  case e2 => k_asm
  case e3 => first | k_asm | (refine' cb_drop ?cbN ?cbS; (case cbN => assumption); (case cbS => kcj_all))
end Mine
end TLevC

section TOsaC
open PySem PySem.W PyProof.Rows
namespace Mine
local macro_rules | `(tactic| k_all) => `(tactic| first | exact off1_all (by assumption) | assumption | exact off1_all2 (by assumption) | (refine List.forall_mem_append.mpr ⟨?ka, ?kb⟩; (case ka => k_all); (case kb => k_all)))
local macro_rules | `(tactic| walk_at "exec If") => `(tactic| (k_here; (with_reducible show wpAny _ _ (exec (Stmt.If (Expr.Compare _ _ _ _) [Stmt.Assign _ _ _] [] _) _) _ _ _); kj_step))
local macro_rules | `(tactic| walk_at "exec If") => `(tactic| (k_here; (with_reducible show wpAny _ _ (exec (Stmt.If (Expr.BoolOp _ _ _) [Stmt.Assign _ _ _] [] _) _) _ _ _); (rename Fr _ _ _ _ => F'); (rename News _ _ _ _ => N'); (refine' swapIf F' N' ?gi ?gj ?g1 ?g2 ?g3 ?g4 ?g5 ?g6 ?hc ?hv ?hk; (case gi => with_unfolding_all rfl); (case gj => with_unfolding_all rfl); (case g1 => with_unfolding_all rfl); (case g2 => with_unfolding_all rfl); (case g3 => with_unfolding_all rfl); (case g4 => with_unfolding_all rfl); (case g5 => with_unfolding_all rfl); (case g6 => with_unfolding_all rfl))))
local macro_rules | `(tactic| walk_at "KJoinC") => `(tactic| ((show KJoinC (swB _ _ _ _ _ _ _ _) _ _ _ _ _ _ _); refine ⟨?_, ⟨⟨_, _, rfl, by assumption, by assumption⟩⟩⟩; first | exact sw_f1 (by assumption) | exact sw_f2 (by assumption) | exact sw_f3 (by assumption) | exact sw_f4 (by assumption) | exact sw_f5 (by assumption) | exact sw_t (by assumption) (by assumption) (by assumption) (by assumption) (by assumption)))
set_option maxRecDepth 100000 in
set_option maxHeartbeats 0 in
theorem osa : ∀ (w : World) (mean : ExcName → Option Value) (mg mb : Str → Option Value)
   (dp un : Nat) (gd : Option (List Code)) (cn : Str) (cs : Scope) (a : Addr) (ccd : Value) (cl : List (Str × Addr)) (outer : List Env) (A₀ : Around) (base h₀ : Heap) (L : Addr) (m : Str → Option Value) (s : Shared) (Q E : Value → Shared → Prop)
   (news : List (Addr × Obj)) (x y : Str) (tx ty : Tok) (n1 n2 st : Nat) (t1 t2 t3 : Tok) (cc : Value) (p : Addr) (pv : List Value) (ps : List Int) (pn : Nat)
   (B : Below A₀ base outer h₀) (F : Fr h₀ L s.heap m) (X : (hd.heap_39 w.params).In h₀) (N : News h₀ L s.heap ((p, listOf pv.toArray pn) :: news))
   (T : Top hd.view_39 (looseW hd.view_39 [Str.ofString "Levenshtein", Str.ofString "DamerauOsa"]) mean mg mb h₀)
   (hk : cs.kind = .function) (hdp : dp + 10 < recursionLimit) (hun : un + 100 < cLine) (hI : IntsAre pv ps) (hpl : ps.length = n2) (hpo : ∀ q ∈ news, q.1 ≠ p)
   (h1 : 1 ≤ n1) (h1' : n1 ≤ 7) (h2 : 1 ≤ n2) (h2' : n2 ≤ 7) (hst : st ≤ 3) (hx : st + n1 ≤ x.length) (hy : st + n2 ≤ y.length) (hxs : x.length ≤ 20) (hys : y.length ≤ 20)
   (hret : ∀ (t : Tok) (h' : Heap) (tk' : Nat), Fr h₀ L h' m → News h₀ L h' news → Q (.int (dt true (sg x st) (sg y st) n1 n2) t) { s with heap := h', toks := tk' }),
   wpAny (model PySem.Challenge.rw_fp5024_01.row.prog w) (ktrTop dp un gd cn cs L a ccd cl outer) (call (.ref 113) [.str x tx, .str y ty, .int n1 t1, .int n2 t2, .int st t3, cc, .ref p]) Q E s := by
  k_with_none
  w_top off
  k_fill
  intro w mean mg mb dp un gd cn cs a ccd cl outer A₀ base h₀ L m s Q E news x y tx ty n1 n2 st t1 t2 t3 cc p pv ps pn B F X N T hk hdp hun hI hpl hpo h1 h1' h2 h2' hst hx hy hxs hys hret
  k_with "pyIter ref" => (k_of "i" => k_state (fun pre c1 cur costs prevs => costs.length = n2 ∧ prevs.length = n2 ∧ OO (dt true (sg x st) (sg y st)) x st n2 pre.length c1 cur costs prevs) "char_1" "current_cost" "char_1_costs" "prev_char_1_costs")
  k_with "pyIter ref" => (k_of "j" => k_state_given ["i"] (fun i pre cur left above next c2 costs prevs => costs.length = n2 ∧ prevs.length = n2 ∧ 0 ≤ i ∧ i < n1 ∧ IO (dt true (sg x st) (sg y st)) y st n2 i.toNat pre.length cur left above next c2 costs prevs) "current_cost" "left_char_cost" "above_char_cost" "next_trans_cost" "char_2" "char_1_costs" "prev_char_1_costs")
  k_with "state" => (first
    | exact osa_start (by assumption)
    | exact osa_in (by assumption) (by assumption) (by assumption) (by assumption) (by assumption)
    | exact osa_turn (by assumption) (osa_eqv (by assumption) (by assumption) (by assumption) (by assumption) (by assumption)) (by assumption) (by assumption) (by assumption) (by assumption) (by assumption) (by assumption)
    | exact osa_turn (by assumption) (osa_nev (by assumption) (by assumption) (by assumption) (by assumption) (by assumption) (min_two (by assumption) (by assumption)) (by assumption) (by assumption) (by assumption)) (by assumption) (by assumption) (by assumption) (by assumption) (by assumption) (by assumption)
    | exact osa_out (by assumption) (by assumption) (by assumption) (by assumption) (by assumption)
    )
  refine wpAny_call ?_
  k_dflt cell_enter
  k_steps
  all_goals (try (show Q _ _))
  refine cb_retI (Q := Q) hret ?e1 ?e2 ?e3
  case e1 => exact osa_end (by assumption) (by assumption)
  case e2 => k_asm
  case e3 => first | k_asm | (refine' cb_drop ?cbN ?cbS; (case cbN => assumption); (case cbS => kcj_all))
end Mine
end TOsaC

section TSl
open PySem PySem.W PyProof.Rows
namespace Mine
open PySem.StrLaws PySem.Builtin PySem.Builtin.Str in
theorem slice_to_len {x : Str} {j : Int} (h0 : 0 ≤ j) (h1 : j ≤ x.length) : (Txt.slice x none (some j)).length = j.toNat := by
  have hs : x.cps.toList.length = x.length := by simp [Str.length]
  show (sliceText x none (some j)).length = _
  rw [sliceText_to ⟨h0, by omega⟩]
  simp only [Str.length, List.size_toArray, List.length_take, List.length_drop]
  unfold Str.length at hs h1
  omega
open PySem.StrLaws PySem.Builtin PySem.Builtin.Str in
theorem slice_from_len {x : Str} {i : Int} (h0 : 0 ≤ i) : (Txt.slice x (some i) none).length = x.length - i.toNat := by
  have hs : x.cps.toList.length = x.length := by simp [Str.length]
  show (sliceText x (some i) none).length = _
  by_cases h1 : i ≤ x.length
  · rw [sliceText_from ⟨h0, by omega⟩]
    simp only [Str.length, List.size_toArray, List.length_take, List.length_drop]
    unfold Str.length at hs h1
    omega
  · have e : sliceText x (some i) none = sliceText x (some (x.length : Int)) none := by
      unfold sliceText
      have q : strSliceIndices (some i) none 1 x.length = strSliceIndices (some (x.length : Int)) none 1 x.length := by
        have a1 : ¬ i < 0 := by omega
        have a2 : ¬ ((x.length : Int) < 0) := by omega
        have a3 : max (0 : Int) (min i (x.length : Int)) = max 0 (min (x.length : Int) (x.length : Int)) := by omega
        simp only [strSliceIndices, a1, a2, if_false, show ((1 : Int) > 0) = True from by simp, if_true, a3]
      rw [q]
    rw [e, sliceText_from ⟨by omega, by omega⟩]
    simp only [Str.length, List.size_toArray, List.length_take, List.length_drop]
    unfold Str.length at hs h1
    omega
open PySem.StrLaws PySem.Builtin PySem.Builtin.Str in
theorem slice_to_min {x : Str} {j : Int} (h0 : 0 ≤ j) : (Txt.slice x none (some j)).length = min j.toNat x.length := by
  by_cases h1 : j ≤ x.length
  · rw [slice_to_len h0 h1]; omega
  · have hs : x.cps.toList.length = x.length := by simp [Str.length]
    show (sliceText x none (some j)).length = _
    have e : sliceText x none (some j) = sliceText x none (some (x.length : Int)) := by
      unfold sliceText
      have q : strSliceIndices none (some j) 1 x.length = strSliceIndices none (some (x.length : Int)) 1 x.length := by
        have a1 : ¬ j < 0 := by omega
        have a2 : ¬ ((x.length : Int) < 0) := by omega
        have a3 : max (0 : Int) (min j (x.length : Int)) = max 0 (min (x.length : Int) (x.length : Int)) := by omega
        simp only [strSliceIndices, a1, a2, if_false, show ((1 : Int) > 0) = True from by simp, if_true, a3]
      rw [q]
    have e2 := slice_to_len (x := x) (j := (x.length : Int)) (by omega) (Int.le_refl _)
    rw [e]
    show (Txt.slice x none (some (x.length : Int))).length = _
    rw [e2]; omega
theorem fmod_bnd (z : Int) (n : Nat) : 0 ≤ z.fmod ((n : Int) + 1) ∧ z.fmod ((n : Int) + 1) < (n : Int) + 1 :=
  ⟨Int.fmod_nonneg_of_pos z (by omega), Int.fmod_lt_of_pos z (by omega)⟩
section
variable {x c d e : Str} {z : Int}
theorem sp_a (hc : c.length = 1) : (Txt.slice x none (some (z.fmod ((x.length : Int) + 1))) ++ c ++ Txt.slice x (some (z.fmod ((x.length : Int) + 1))) none).length ≤ x.length + 1 := by
  have h := fmod_bnd z x.length
  rw [Str.length_append, Str.length_append, slice_to_len h.1 (by omega), slice_from_len h.1, hc]; omega
theorem sp_b : (Txt.slice x none (some (z.fmod ((x.length : Int) + 1))) ++ Txt.slice x (some (z.fmod ((x.length : Int) + 1) + 1)) none).length ≤ x.length + 1 := by
  have h := fmod_bnd z x.length
  rw [Str.length_append, slice_to_len h.1 (by omega), slice_from_len (by omega)]; omega
theorem sp_c (hc : c.length = 1) : (Txt.slice x none (some (z.fmod ((x.length : Int) + 1))) ++ c ++ Txt.slice x (some (z.fmod ((x.length : Int) + 1) + 1)) none).length ≤ x.length + 1 := by
  have h := fmod_bnd z x.length
  rw [Str.length_append, Str.length_append, slice_to_len h.1 (by omega), slice_from_len (by omega), hc]; omega
theorem sp_d (hd : d.length = 1) (he : e.length = 1) (hp : z.fmod ((x.length : Int) + 1) + 1 < x.length) : (Txt.slice x none (some (z.fmod ((x.length : Int) + 1))) ++ d ++ e ++ Txt.slice x (some (z.fmod ((x.length : Int) + 1) + 2)) none).length ≤ x.length + 1 := by
  have h := fmod_bnd z x.length
  rw [Str.length_append, Str.length_append, Str.length_append, slice_to_len h.1 (by omega), slice_from_len (by omega), hd, he]; omega
end
section
variable {prog : Program} {w : World} {A : Around} {E : Value → Shared → Prop} {s : Shared} {value slice : Expr} {x : Str} {t : Tok} {Q : Value → Shared → Prop}
theorem item_at {i : Int} {u : Tok} (h0 : 0 ≤ i) (h1 : i < x.length) (hx : x.length ≤ 1000) (h : (Txt.item x i).length = 1 → Q (.str (Txt.item x i) s.toks) { s with toks := s.toks + 1 })
    (hs : subscripted slice false (.str x t) (.int i u) = operate [.str x t, .int i u] (getItem (.str x t) (.int i u)) := by with_unfolding_all rfl)
    (ht : ∀ r, letTemporaryGo value (.str x t) r = pure () := by intro _; with_unfolding_all rfl) :
    wpAny (model prog w) A (subscriptTail value slice (.str x t) (.int i u)) Q E s :=
  item_str (fitsSsize_of (N := 9223372036854775808) (by omega) (by omega) (Int.le_refl _)) (by omega) h1 (fun _ => h rfl) hs ht
end
end Mine
end TSl

section TCompX
open PySem PySem.W PyProof.Rows PySem.Spec PySem.Calls
namespace Mine
open PyProof.Rows.LCg

/-- four addresses lie off a ledger -/
def OffX (X I C D : Addr) (news : List (Addr × Obj)) : Prop := ∀ p ∈ news, p.1 ≠ X ∧ p.1 ≠ I ∧ p.1 ≠ C ∧ p.1 ≠ D
/-- what a turn of a comprehension whose name is a cell hands on -/
def XEnd (h₀ : Heap) (L : Addr) (m : Str → Option Value) (s₁ : Shared) (four : List (Addr × Obj)) (X I C D : Addr) (J : Value → List (Addr × Obj) → Prop) (y : Value) (s₂ : Shared) : Prop :=
  ∃ h' tk news', s₂ = { s₁ with heap := h', toks := tk } ∧ Fr h₀ L h' m ∧ News h₀ L h' (four ++ news') ∧ OffX X I C D news' ∧ J y news'

theorem compX {prog : Program} {w : World} {A : Around} {E : Value → Shared → Prop} {h₀ : Heap} {L : Addr} {m : Str → Option Value} {env : Env} {elt iter : Expr} {x : Str} {px : Pos} {scope : Scope} {cl : List (Str × Addr)} {pos : Pos} {s₂ : Shared}
    {I : Addr} {n : Nat} {P : Nat → Value → Prop} {St : Nat → Heap → Prop} {news : List (Addr × Obj)} {J : Nat → List Value → List (Addr × Obj) → Prop} {RR : Value → Addr → Result → Shared → Prop}
    (W : Walks prog w A I [I] [I] n P St) (hsz : n ≤ sizeLine) (hIo : ∀ i h, St i h → ∃ o, h.get? I = some o)
    (hSt : ∀ i h h' o, St i h → h.get? I = some o → h'.get? I = some o → St i h')
    (hcf : ∀ k, cellsFrom k scope.names cl = (x, k) :: cl) (hpc : ∀ h, pushCells h scope.names = h.push { cls := .type "cell", data := .cell none })
    (hkind : scope.kind = .function) (hxk : (relabel scope env).names.lookup x = some .cell) (hst : St 0 s₂.heap) (hIlt : I < s₂.heap.objs.size)
    (F : Fr h₀ L s₂.heap m) (N : News h₀ L s₂.heap news) (hIL : L ≠ I) (hI₀ : h₀.get? I = none) (off : ∀ p ∈ news, p.1 ≠ I) (hJ : J 0 [] news)
    (turn : ∀ i ys news' X I C D oX oI oC v h tk (E' : Value → Shared → Prop), i < n → P i v → J i ys news' → oX.data = .cell (some v) → Fr h₀ L h m → News h₀ L h ((X, oX) :: (I, oI) :: (C, oC) :: (D, lst ys) :: news') → OffX X I C D news' →
      ((@Ne Nat X I) ∧ (@Ne Nat X C) ∧ (@Ne Nat X D) ∧ (@Ne Nat I C) ∧ (@Ne Nat I D) ∧ (@Ne Nat C D)) →
      wpAny (model prog w) A (eval elt (compEnvC scope ((x, X) :: cl) C env)) (XEnd h₀ L m { s₂ with heap := h, toks := tk } [(X, oX), (I, oI), (C, oC), (D, lst ys)] X I C D (fun y nw => J (i + 1) (ys ++ [y]) nw)) E' { s₂ with heap := h, toks := tk })
    (hRR : ∀ D C h tk ys m' news', J n ys news' → Fr h₀ L h m → News h₀ L h ((D, lst ys) :: news') → (∀ p ∈ news', p.1 ≠ D) → h.Ns C m' → h₀.get? C = none → h₀.get? D = none → C ≠ L → D ≠ L → C ≠ D → (∀ p ∈ news', p.1 ≠ C) → RR (.ref D) C (.ok .next) { s₂ with heap := h, toks := tk }) :
    wpAny (model prog w) A (newList []) (fun acc s₃ => wpAny (model prog w) A (newFunctionEnv scope env.globals cl [] env.qual none .none (some env)) (fun cenv s₄ =>
      codeAny (model prog w) A (.compStart (.ListComp elt [⟨.Name x px, iter, [], 0⟩] scope pos) 0 (.ref I) acc { cenv with scope := relabel scope env }) (RR acc cenv.locals) s₄) E s₃) E s₂ := by
  refine wpAny_newObj_type ?_
  simp only [newFunctionEnv, Option.isSome_some, if_true]
  refine wpAny_bind (wpAny_alloc ?_)
  refine wpAny_bind (wpAny_layCells _ (fun name kind cells => by cases hkc : kind == NameKind.cell <;> simp) _ _ _ _ ?_)
  refine wpAny_bind ?_
  rw [List.forIn_nil]
  refine wpAny_pure (wpAny_pure ?_)
  rw [hcf, hpc]
  dsimp only
  generalize hH2 : s₂.heap.push { cls := .type "list", dict := none, data := .seq ([] : List Value).toArray } = H2
  generalize hH3 : H2.push { cls := .type "dict", data := .dict #[] } = H3
  generalize hH4 : H3.push { cls := .type "cell", data := .cell none } = H4
  have hC : H2.objs.size = s₂.heap.objs.size + 1 := by rw [← hH2, Heap.size_push]
  have hX : H3.objs.size = s₂.heap.objs.size + 2 := by rw [← hH3, Heap.size_push, hC]
  generalize hDe : s₂.heap.objs.size = D at *
  generalize hCe : H2.objs.size = C at *
  generalize hXe : H3.objs.size = X at *
  have old2 : ∀ b o, s₂.heap.get? b = some o → H2.get? b = some o := fun b o e => hH2 ▸ Heap.get?_push_of_some _ e
  have old3 : ∀ b o, H2.get? b = some o → H3.get? b = some o := fun b o e => hH3 ▸ Heap.get?_push_of_some _ e
  have old4 : ∀ b o, H3.get? b = some o → H4.get? b = some o := fun b o e => hH4 ▸ Heap.get?_push_of_some _ e
  have old : ∀ b o, s₂.heap.get? b = some o → H4.get? b = some o := fun b o e => old4 _ _ (old3 _ _ (old2 _ _ e))
  have gD : H4.get? D = some (lst []) := old4 _ _ (old3 _ _ (by rw [← hH2, ← hDe]; exact Heap.get?_push_size _ rfl))
  have gC : H4.get? C = some { cls := .type "dict", data := .dict #[] } := old4 _ _ (by rw [← hH3, ← hCe]; exact Heap.get?_push_size _ rfl)
  have gX : H4.get? X = some { cls := .type "cell", data := .cell none } := by rw [← hH4, ← hXe]; exact Heap.get?_push_size _ rfl
  have nC : H4.Ns C (fun _ => none) := by
    have := (Heap.Ns.new H2 (.type "dict"))
    rw [hH3, hCe] at this
    exact this.keeps old4
  have fresh : ∀ a, D ≤ a → s₂.heap.get? a = none := fun a ha => by
    cases e : s₂.heap.get? a with
    | none => rfl
    | some o' => exact absurd (Heap.lt_size e) (by rw [hDe]; exact Nat.not_lt.mpr ha)
  have fresh₀ : ∀ a, D ≤ a → h₀.get? a = none := fun a ha => by
    cases e : h₀.get? a with
    | none => rfl
    | some o' => have := F.keep a o' e; rw [fresh a ha] at this; cases this
  have hD₀ : h₀.get? D = none := fresh₀ _ (Nat.le_refl _)
  have hC₀ : h₀.get? C = none := fresh₀ _ (by rw [hC]; exact Nat.le_succ _)
  have hX₀ : h₀.get? X = none := fresh₀ _ (by rw [hX]; exact Nat.le_add_right _ _)
  have hLlt : @LT.lt Nat _ L D := by rw [← hDe]; exact F.ns.lt
  have hIl' : @LT.lt Nat _ I D := hIlt
  have hCn : @Eq Nat C (@HAdd.hAdd Nat Nat Nat _ D 1) := hC
  have hXn : @Eq Nat X (@HAdd.hAdd Nat Nat Nat _ D 2) := hX
  have lD : @Ne Nat D L := by omega
  have lC : @Ne Nat C L := by omega
  have lX : @Ne Nat X L := by omega
  have nXI : @Ne Nat X I := by omega
  have nXC : @Ne Nat X C := by omega
  have nXD : @Ne Nat X D := by omega
  have nIC : @Ne Nat I C := by omega
  have nID : @Ne Nat I D := by omega
  have nCD : @Ne Nat C D := by omega
  have off₀ : OffX X I C D news := fun p hp => by
    have hl : @LT.lt Nat _ p.1 D := by rw [← hDe]; exact Heap.lt_size (N p hp).1
    have a1 : @Ne Nat p.1 X := by omega
    have a2 : @Ne Nat p.1 C := by omega
    have a3 : @Ne Nat p.1 D := by omega
    exact ⟨a1, off p hp, a2, a3⟩
  have hst₁ : St 0 H4 := W.frame _ _ _ hst fun b _ o e => old b o e
  have loop : ∀ s₃ : Shared, s₃ = { s₂ with heap := H4 } →
      codeAny (model prog w) A (.compLoop (.ListComp elt [⟨.Name x px, iter, [], 0⟩] scope pos) 0 (.ref I) (.ref D) (compEnvC scope ((x, X) :: cl) C env)) (RR (.ref D) C) s₃ := by
    rintro s₃ rfl
    refine codeAny_compLoop_tests
      (fun k s' => ∃ h' tk i ys m' cv news', s' = { s₂ with heap := h', toks := tk } ∧ i ≤ n ∧ k = n + 1 - i ∧ ys.length = i ∧ St i h' ∧ Fr h₀ L h' m ∧ h'.Ns C m' ∧ h'.IsCell X cv ∧ News h₀ L h' ((D, lst ys) :: news') ∧
        OffX X I C D news' ∧ J i ys news') ?_ (n + 1)
      ⟨H4, _, 0, [], _, _, news, rfl, Nat.zero_le _, rfl, rfl, hst₁, F.keeps old, nC, ⟨_, gX, rfl⟩, fun p hp => ?_, off₀, hJ⟩
    · rintro k s' ⟨h', tk, i, ys, m', cv, news', rfl, hi, rfl, hyl, hst', F', hn', hx', N', off', hJ'⟩
      by_cases hlt : i < n
      · refine W.item i _ _ _ hlt hst' fun v h₂ tk₂ hPv hst₂ hk₂ => ?_
        have hx₂ : h₂.IsCell X cv := let ⟨o, ho, hd⟩ := hx'; ⟨o, hk₂ X o (by simpa using nXI) ho, hd⟩
        refine wpAny_assign_Name (wpAny_storeName_cell (c := X) (by simp [compEnvC, relabel, hkind]) hxk (by simp [compEnvC]) hx₂ fun h₃ hx₃ hs₃ => ?_)
        refine wpAny_tests_nil ?_
        simp only [if_true]
        have hst₃ : St (i + 1) h₃ := W.frame _ _ _ hst₂ fun b hb o e => hs₃.extBut b o (fun q => by rw [List.mem_singleton.mp hb] at q; exact nXI q.symm) e
        obtain ⟨oI, heI⟩ := hIo _ _ hst₃
        obtain ⟨oX, heX, hdX⟩ := hx₃
        have hn₃ : h₃.Ns C m' := (hn'.at' fun o e => hk₂ _ o (by simpa using (Ne.symm nIC)) e).sameBut hs₃ (Ne.symm nXC)
        obtain ⟨oC, heC, hoC⟩ := ns_obj hn₃
        have F₃ : Fr h₀ L h₃ m := (fr_but F' hk₂ hIL hI₀).change hs₃ lX hX₀
        have N₂ : News h₀ L h₂ ((D, lst ys) :: news') := news_but N' hk₂ fun p hp => by
          rcases List.mem_cons.mp hp with rfl | hp
          · exact Ne.symm nID
          · exact (off' p hp).2.1
        have N₃ : News h₀ L h₃ ((X, oX) :: (I, oI) :: (C, oC) :: (D, lst ys) :: news') := fun p hp => by
          rcases List.mem_cons.mp hp with rfl | hp
          · exact ⟨heX, lX, hX₀⟩
          · rcases List.mem_cons.mp hp with rfl | hp
            · exact ⟨heI, Ne.symm hIL, hI₀⟩
            · rcases List.mem_cons.mp hp with rfl | hp
              · exact ⟨heC, lC, hC₀⟩
              · have z := N₂ p hp
                refine ⟨hs₃.extBut _ _ ?_ z.1, z.2⟩
                rcases List.mem_cons.mp hp with rfl | hp
                · exact Ne.symm nXD
                · exact (off' p hp).1
        refine wpAny_mono (turn i ys news' X I C D oX oI oC v h₃ _ _ hlt hPv hJ' hdX F₃ N₃ off' ⟨nXI, nXC, nXD, nIC, nID, nCD⟩) (fun y s₄ h₄ => ?_) fun _ _ e => e
        obtain ⟨h₄, tk₄, news₄, rfl, F₄, N₄, off₄, hJ₄⟩ := h₄
        have zX := (N₄ (X, oX) (by simp)).1
        have zI := (N₄ (I, oI) (by simp)).1
        have zC := (N₄ (C, oC) (by simp)).1
        have zD := (N₄ (D, lst ys) (by simp)).1
        have N₄' : News h₀ L h₄ news₄ := fun p hp => N₄ p (List.mem_append_right _ hp)
        have hst₄ : St (i + 1) h₄ := hSt _ _ _ _ hst₃ heI zI
        refine append_at (hsz := by show ys.toArray.size ≤ sizeLine; rw [List.size_toArray, hyl]; exact Nat.le_trans hi hsz) zD fun h₅ hs₅ hD₅ => ?_
        refine ⟨n + 1 - (i + 1), by omega, h₅, tk₄, i + 1, ys ++ [y], m', some v, news₄, rfl, hlt, rfl, by rw [List.length_append, List.length_singleton, hyl], W.frame _ _ _ hst₄ fun b hb o e => hs₅.extBut b o (fun q => by rw [List.mem_singleton.mp hb] at q; exact nID q) e, F₄.change hs₅ lD hD₀,
          (hoC.ns zC).sameBut hs₅ nCD, ⟨oX, hs₅.extBut _ _ nXD zX, hdX⟩, fun p hp => ?_, off₄, hJ₄⟩
        rcases List.mem_cons.mp hp with rfl | hp
        · exact ⟨hD₅.trans (congrArg some (lst_snoc ys y)), lD, hD₀⟩
        · exact ⟨hs₅.extBut _ _ (off₄ p hp).2.2.2 (N₄' p hp).1, (N₄' p hp).2⟩
      · obtain rfl : i = n := Nat.le_antisymm hi (Nat.not_lt.mp hlt)
        refine W.done _ _ _ hst' fun h₂ tk₂ hk₂ => ?_
        exact hRR _ _ h₂ tk₂ ys m' news' hJ' (fr_but F' hk₂ hIL hI₀) (news_but N' hk₂ fun p hp => by
          rcases List.mem_cons.mp hp with rfl | hp
          · exact Ne.symm nID
          · exact (off' p hp).2.1) (fun p hp => (off' p hp).2.2.2) (hn'.at' fun o e => hk₂ _ o (by simpa using (Ne.symm nIC)) e) hC₀ hD₀ lC lD nCD (fun p hp => (off' p hp).2.2.1)
    · rcases List.mem_cons.mp hp with rfl | hp
      · exact ⟨gD, lD, hD₀⟩
      · exact ⟨old _ _ (N p hp).1, (N p hp).2⟩
  exact codeAny_compStart_list (loop _ rfl) (W.self 0 _ _ _ hst₁ (loop _ rfl))
end Mine
namespace Mine
open PyProof.Rows.LCg
def XSrc (prog : Program) (w : World) (A : Around) (h₀ : Heap) (L : Addr) (m : Str → Option Value) (env : Env) (elt : Expr) (x : Str) (scope : Scope) (cl : List (Str × Addr)) (y : Str) (Q : Flow → Shared → Prop)
    (n : Nat) (J : Nat → List Value → List (Addr × Obj) → Prop) (xv : Value) (s₁ : Shared) : Prop :=
  ∃ r a b t u v news, xv = .ref r ∧ A.handled = none ∧ Fr h₀ L s₁.heap m ∧ News h₀ L s₁.heap news ∧ IsRange s₁.heap r a b 1 t u v ∧ Builtin.Range.small a b 1 = true ∧ Builtin.Range.rangeSize a b 1 = ((n : Nat) : Int) ∧ n ≤ sizeLine ∧ J 0 [] news ∧
    (∀ i ys news' X I C D oX oI oC t' h tk (E' : Value → Shared → Prop), i < n → J i ys news' → oX.data = .cell (some (.int (a + (i : Int)) t')) → Fr h₀ L h m → News h₀ L h ((X, oX) :: (I, oI) :: (C, oC) :: (D, lst ys) :: news') → OffX X I C D news' →
      ((@Ne Nat X I) ∧ (@Ne Nat X C) ∧ (@Ne Nat X D) ∧ (@Ne Nat I C) ∧ (@Ne Nat I D) ∧ (@Ne Nat C D)) →
      wpAny (model prog w) A (eval elt (compEnvC scope ((x, X) :: cl) C env)) (XEnd h₀ L m { s₁ with heap := h, toks := tk } [(X, oX), (I, oI), (C, oC), (D, lst ys)] X I C D (fun y nw => J (i + 1) (ys ++ [y]) nw)) E' { s₁ with heap := h, toks := tk }) ∧
    (∀ D h tk ys news', J n ys news' → Fr h₀ L h (fun z => if z = y then some (.ref D) else m z) → News h₀ L h ((D, lst ys) :: news') → (∀ p ∈ news', p.1 ≠ D) → Q .next { s₁ with heap := h, toks := tk })

theorem AssignX {prog : Program} {w : World} {A : Around} {E : Value → Shared → Prop} {s : Shared} {h₀ : Heap} {L : Addr} {m : Str → Option Value} {env : Env} {elt iter : Expr} {x y : Str} {px py : Pos} {scope : Scope} {cl : List (Str × Addr)} {pos spos : Pos} {Q : Flow → Shared → Prop}
    (n : Nat) (J : Nat → List Value → List (Addr × Obj) → Prop) (F₀ : Fr h₀ L s.heap m) (hLe : env.locals = L)
    (hsw : swapsWith (.ListComp elt [⟨.Name x px, iter, [], 0⟩] scope pos) (some (.Name y py)) spos.line env = pure true)
    (hclos : closureFor scope env = pure cl) (hcf : ∀ k, cellsFrom k scope.names cl = (x, k) :: cl) (hpc : ∀ h, pushCells h scope.names = h.push { cls := .type "cell", data := .cell none })
    (hkind : scope.kind = .function) (hnames : ∀ z ∈ scope.names, z.2 = .local → scope.names.lookup z.1 = some .local) (hxk : (relabel scope env).names.lookup x = some .cell)
    (hy : env.kindOf y = some .local) (hp : (env.scope.kind == .class || (env.scope.kind == .module && env.locals != env.globals)) = false)
    (h : wpAny (model prog w) A (eval iter env) (XSrc prog w A h₀ L m env elt x scope cl y Q n J) E s)
    (hs : ∀ x, foldedSetIterable iter env x = pure x := by intro _; rfl) :
    wpAny (model prog w) A (exec (.Assign [.Name y py] (.ListComp elt [⟨.Name x px, iter, [], 0⟩] scope pos) spos) env) Q E s := by
  subst hLe
  rw [exec_Assign_Name_used _ _ _ _ hsw]
  refine wpAny_bind (wpAny_standAt (wpAny_bind ?_))
  show wpAny _ A (do let _ ← comprehension (.ListComp elt [⟨.Name x px, iter, [], 0⟩] scope pos) scope env _ (newList []) false (eval iter env) (some (assign (.Name y py) env))) _ _ s
  refine wpAny_bind (wpAny_mono (wpAny_comprehension_free (use := some (assign (.Name y py) env)) (Q := fun _ s' => Q .next s') rfl hs hclos hkind hnames
    (wpAny_mono h (fun xv s₁ h₁ => ?_) fun _ _ e => e)) (fun _ s' hq => wpAny_pure (wpAny_pure hq)) fun _ _ e => e)
  obtain ⟨r, a, b, t, u, v, news, rfl, hh, F, N, hr, hsm, hn, hsz, hJ, turn, done⟩ := h₁
  refine wpAny_pyIter_range hr hsm ?_
  refine compX (J := J) (news := news) (range_walks hh a n) hsz (fun i h st => ⟨_, st⟩) (fun i h h' o st e e' => ?_) hcf hpc hkind hxk (by show IsRangeIter _ _ _ _ _; rw [hn]; simpa using Heap.get?_push_size _ rfl) ?_
      (F.keeps fun _ _ e => Heap.get?_push_of_some _ e) (N.grown fun _ _ e => Heap.get?_push_of_some _ e) (Nat.ne_of_lt F.ns.lt) (next_is_new F) (fun p hp => Nat.ne_of_lt (Heap.lt_size (N p hp).1)) hJ ?_ ?_
  · have st' : h.get? _ = some _ := st
    show h'.get? _ = some _
    rw [e', ← e]; exact st'
  · show s₁.heap.objs.size < (s₁.heap.push _).objs.size
    rw [Heap.size_push]; exact Nat.lt_succ_self _
  · rintro i ys news' X I C D oX oI oC v' h' tk E' hi ⟨t', rfl⟩ hJ' hd F' N' off' ne'
    exact turn i ys news' X I C D oX oI oC t' h' tk E' hi hJ' hd F' N' off' ne'
  · intro D C h' tk ys m' news' hJ' F' N' o1 hn hC₀ hD₀ hCL hDL hCD offC
    show wpAny _ A (assign (.Name y py) env (.ref D)) _ _ _
    refine wpAny_assign_Name (wpAny_storeName_local hy F'.ns (fun h₂ hn₂ hs₂ => ?_) hp)
    have hL₀ : h₀.get? env.locals = none := Heap.get?_none_of_le F'.above
    have F₂ : Fr h₀ env.locals h₂ (fun z => if z = y then some (.ref D) else m z) := ⟨hn₂, fun b o e => hs₂.extBut b o (fun q => by rw [q, hL₀] at e; cases e) (F'.keep b o e), F'.above⟩
    refine ⟨m', hn.sameBut hs₂ hCL, fun h'' hs'' => done D h'' _ ys news' hJ' (F₂.change hs'' hCL hC₀) (fun p hp => ?_) o1⟩
    have z : h₂.get? p.1 = some p.2 := hs₂.extBut _ _ (N' p hp).2.1 (N' p hp).1
    refine ⟨hs''.extBut _ _ ?_ z, (N' p hp).2⟩
    rcases List.mem_cons.mp hp with rfl | hp
    · exact Ne.symm hCD
    · exact offC p hp
end Mine
end TCompX

section TGridP
open PySem PySem.W PyProof.Rows PySem.Spec PySem.Calls
namespace Mine
open PyProof.Rows.LCg
def irow (i k : Int) : Int := if i = 0 ∨ k = 0 then i + k else 0
def rl (rows : List (Addr × List Value)) : List (Addr × Obj) := rows.map fun r => (r.1, lst r.2)
def GJ (n2 : Nat) (base : List (Addr × Obj)) (i : Nat) (ys : List Value) (news' : List (Addr × Obj)) : Prop :=
  ∃ rows : List (Addr × List Value), rows.length = i ∧ ys = rows.map (fun r => Value.ref r.1) ∧ news' = rl rows ++ base ∧ (rows.map (·.1)).Nodup ∧ (∀ r ∈ rows, ∀ p ∈ base, p.1 ≠ r.1) ∧
    ∀ (k : Nat) r, rows[k]? = some r → IntsAre r.2 ((rangeKs 0 (n2 + 1)).map (irow (k : Int)))
theorem GJ.start {n2 : Nat} {base : List (Addr × Obj)} : GJ n2 base 0 [] base := ⟨[], rfl, rfl, rfl, List.nodup_nil, (fun _ h => by cases h), (fun k r h => by simp at h)⟩
theorem xend_grid {h₀ h : Heap} {L X I C D D' : Addr} {m : Str → Option Value} {s₁ : Shared} {oX oI oC : Obj} {ys vs : List Value} {n2 i tk : Nat} {base news' extra : List (Addr × Obj)} (F : Fr h₀ L h m)
    (N : News h₀ L h ((D', lst vs) :: (X, oX) :: (I, oI) :: (C, oC) :: (D, lst ys) :: (extra ++ news'))) (hJ : GJ n2 base i ys news') (off : OffX X I C D news')
    (o1 : Off1 D' ((X, oX) :: (I, oI) :: (C, oC) :: (D, lst ys) :: (extra ++ news'))) (hi : IntsAre vs ((rangeKs 0 (n2 + 1)).map (irow (i : Int)))) :
    XEnd h₀ L m s₁ [(X, oX), (I, oI), (C, oC), (D, lst ys)] X I C D (fun y nw => GJ n2 base (i + 1) (ys ++ [y]) nw) (.ref D') { s₁ with heap := h, toks := tk } := by
  obtain ⟨rows, hl, hy, rfl, hnd, hb, hr⟩ := hJ
  have o := off1_all o1
  have oN : ∀ p ∈ rl rows ++ base, p.1 ≠ D' := fun p hp => o p (by simp only [List.mem_cons, List.mem_append] at hp ⊢; grind)
  refine ⟨h, tk, rl (rows ++ [(D', vs)]) ++ base, rfl, F, fun p hp => N p ?_, fun p hp => ?_, rows ++ [(D', vs)], by simp [hl], by simp [hy], rfl, ?_, ?_, ?_⟩
  · simp only [rl, List.map_append, List.map_cons, List.map_nil, List.mem_append, List.mem_cons, List.not_mem_nil, or_false] at hp ⊢
    grind
  · have hp' : p ∈ rl rows ++ base ∨ p = (D', lst vs) := by
      simp only [rl, List.map_append, List.map_cons, List.map_nil, List.mem_append, List.mem_cons, List.not_mem_nil, or_false] at hp ⊢
      grind
    rcases hp' with hp' | rfl
    · exact off p hp'
    · exact ⟨Ne.symm (o (X, oX) (by simp)), Ne.symm (o (I, oI) (by simp)), Ne.symm (o (C, oC) (by simp)), Ne.symm (o (D, lst ys) (by simp))⟩
  · rw [List.map_append, List.nodup_append]
    refine ⟨hnd, by simp, fun a ha b hb' => ?_⟩
    obtain ⟨r, hr1, rfl⟩ := List.mem_map.mp ha
    simp only [List.map_cons, List.map_nil, List.mem_singleton] at hb'
    subst hb'
    exact oN (r.1, lst r.2) (List.mem_append_left _ (List.mem_map.mpr ⟨r, hr1, rfl⟩))
  · intro r hr1 p hp
    rcases List.mem_append.mp hr1 with h1 | h1
    · exact hb r h1 p hp
    · rw [List.mem_singleton.mp h1]
      exact oN p (List.mem_append_right _ hp)
  · intro k r hk
    by_cases hlt : k < rows.length
    · rw [List.getElem?_append_left hlt] at hk
      exact hr k r hk
    · have hk2 : k = i := by
        have := (List.getElem?_eq_some_iff.mp hk).1
        rw [List.length_append, List.length_singleton] at this
        omega
      subst hk2
      rw [List.getElem?_append_right (by omega), hl, Nat.sub_self] at hk
      simp only [List.getElem?_cons_zero, Option.some.injEq] at hk
      rw [← hk]
      exact hi
end Mine
namespace Mine
open PyProof.Rows.LCg
theorem gj_base {n2 i : Nat} {base news' : List (Addr × Obj)} {ys : List Value} (h : GJ n2 base i ys news') : ∀ p ∈ base, p ∈ news' := by
  obtain ⟨rows, _, _, rfl, _⟩ := h
  exact fun p hp => List.mem_append_right _ hp
theorem news_five {h₀ h : Heap} {L : Addr} {p1 p2 p3 p4 p5 : Addr × Obj} {news' : List (Addr × Obj)} (N : News h₀ L h (p1 :: p2 :: p3 :: p4 :: news')) (h5 : p5 ∈ news') : News h₀ L h (p1 :: p2 :: p3 :: p4 :: p5 :: news') :=
  fun p hp => N p (by simp only [List.mem_cons] at hp ⊢; grind)
theorem rsz (n : Nat) : Builtin.Range.rangeSize 0 ((n : Int) + 1) 1 = ((n + 1 : Nat) : Int) := by
  have h := rangeSize_nat 0 ((n : Int) + 1)
  rw [h]
  omega
end Mine
namespace Mine
open PyProof.Rows.LCg
def rowA (as : List Addr) (k : Int) : Addr := as.getD k.toNat 0
def RowsAre (rows : List (Addr × List Value)) (T : Nat → List Int) : Prop := ∀ (k : Nat) r, rows[k]? = some r → IntsAre r.2 (T k)
theorem allLt_ne2 {d : Addr} {P Q : Prop} {l : List (Addr × Obj)} (h : P ∧ Q ∧ AllLt d l) : ∀ p ∈ l, p.1 ≠ d := fun p hp => Nat.ne_of_lt (kst_ltOf h.2.2 p hp)
section
variable {prog : Program} {w : World} {A : Around} {E : Value → Shared → Prop} {s : Shared} {h₀ : Heap} {L G : Addr} {m : Str → Option Value} {news : List (Addr × Obj)} {rows : List (Addr × List Value)} {T : Nat → List Int} {as : List Addr} {k q : Int} {u t : Tok}
theorem grid_row {value slice : PySem.Expr} {Q : Value → Shared → Prop} (N : News h₀ L s.heap news) (hm : (G, lst (as.map Value.ref)) ∈ news) (h0 : 0 ≤ k) (h1 : k < as.length) (hfit : as.length ≤ 100) (h : Q (.ref (rowA as k)) s)
    (hs : subscripted slice false (.ref G) (.int k u) = operate [.ref G, .int k u] (getItem (.ref G) (.int k u)) := by with_unfolding_all rfl) :
    wpAny (model prog w) A (subscriptTail value slice (.ref G) (.int k u)) Q E s :=
  have hL : s.heap.IsList G (as.map Value.ref).toArray := ⟨_, (N _ hm).1, rfl, _, rfl⟩
  tail_any hL.typeIs slot_list_getitem.lookup (wpAny_getItem_list hL h0 (by omega) (by
    have hj : k.toNat < as.length := by omega
    simp [rowA, List.getD, hj]) h) hs
theorem row_at {k : Nat} (hA : rows.map (·.1) = as) (h1 : k < as.length) : ∃ vs, rows[k]? = some (as.getD k 0, vs) ∧ (as.getD k 0, lst vs) ∈ rl rows := by
  subst hA
  have hk : k < rows.length := by simpa using h1
  refine ⟨rows[k].2, ?_, ?_⟩
  · simp [List.getD, hk]
  · refine List.mem_map.mpr ⟨rows[k], List.getElem_mem hk, ?_⟩
    simp [List.getD, hk]
theorem grid_cell {value slice : PySem.Expr} {Q : Value → Shared → Prop} (N : News h₀ L s.heap news) (hsub : ∀ p ∈ rl rows, p ∈ news) (hA : rows.map (·.1) = as) (hR : RowsAre rows T) (h0 : 0 ≤ k) (h1 : k < as.length)
    (q0 : 0 ≤ q) (q1 : q < (T k.toNat).length) (hfit : (T k.toNat).length ≤ 100) (h : ∀ t, Q (.int ((T k.toNat).getD q.toNat 0) t) s)
    (hs : subscripted slice false (.ref (rowA as k)) (.int q u) = operate [.ref (rowA as k), .int q u] (getItem (.ref (rowA as k)) (.int q u)) := by with_unfolding_all rfl) :
    wpAny (model prog w) A (subscriptTail value slice (.ref (rowA as k)) (.int q u)) Q E s := by
  obtain ⟨vs, hr, hm⟩ := row_at (k := k.toNat) hA (by omega)
  exact ksa_sub N (hsub _ hm) (hR _ _ hr) q0 q1 (by omega) h hs
def updT (T : Nat → List Int) (i j : Nat) (v : Int) : Nat → List Int := fun p => if p = i then (T i).set j v else T p
theorem grid_set {Q : Unit → Shared → Prop} {pre post : List (Addr × Obj)} {v : Int} (F : Fr h₀ L s.heap m) (N : News h₀ L s.heap (pre ++ (rl rows ++ post))) (hA : rows.map (·.1) = as) (hnd : as.Nodup) (hp : ∀ p ∈ pre, p.1 ∉ as) (hq : ∀ p ∈ post, p.1 ∉ as)
    (hR : RowsAre rows T) (h0 : 0 ≤ k) (h1 : k < as.length) (q0 : 0 ≤ q) (q1 : q < (T k.toNat).length) (hfit : (T k.toNat).length ≤ 100)
    (h : ∀ h' rows', Fr h₀ L h' m → News h₀ L h' (pre ++ (rl rows' ++ post)) → rows'.map (·.1) = as → RowsAre rows' (updT T k.toNat q.toNat v) → Q () { s with heap := h' }) :
    wpAny (model prog w) A (setItem (.ref (rowA as k)) (.int q t) (.int v u)) Q E s := by
  have hk : k.toNat < rows.length := by rw [← hA] at h1; simp at h1; omega
  obtain ⟨r1, r, r2, hrows, hr1⟩ : ∃ r1 r r2, rows = r1 ++ r :: r2 ∧ r1.length = k.toNat := ⟨rows.take k.toNat, rows[k.toNat], rows.drop (k.toNat + 1), by simp, by simp; omega⟩
  obtain ⟨a, vs⟩ := r
  have hra : rows[k.toNat]? = some (a, vs) := by rw [hrows, ← hr1]; simp
  have ha : rowA as k = a := by
    unfold rowA
    rw [← hA]
    simp [List.getD, hra]
  rw [ha]
  have hnd' : (rows.map (·.1)).Nodup := by rw [hA]; exact hnd
  have hin : a ∈ as := by rw [← hA, hrows]; simp
  have d1 : ∀ x ∈ rl r1, x.1 ≠ a := by
    intro x hx e
    obtain ⟨y, hy, rfl⟩ := List.mem_map.mp hx
    rw [hrows, List.map_append, List.nodup_append] at hnd'
    exact hnd'.2.2 y.1 (List.mem_map_of_mem hy) a (by simp) e
  have d2 : ∀ x ∈ rl r2, x.1 ≠ a := by
    intro x hx e
    obtain ⟨y, hy, rfl⟩ := List.mem_map.mp hx
    rw [hrows, List.map_append, List.nodup_append, List.map_cons, List.nodup_cons] at hnd'
    exact hnd'.2.1.1 (List.mem_map.mpr ⟨y, hy, e⟩)
  have hled : ∀ vs', pre ++ (rl (r1 ++ (a, vs') :: r2) ++ post) = (pre ++ rl r1) ++ (a, lst vs') :: (rl r2 ++ post) := fun vs' => by simp [rl]
  have z := N (a, lst vs) (by rw [hrows, hled]; simp)
  have hiv : IntsAre vs (T k.toNat) := hR _ _ hra
  have hl : vs.length = (T k.toNat).length := hiv.length
  have e1 : ∀ x ∈ pre ++ rl r1, x.1 ≠ a := fun x hx e => by
    rcases List.mem_append.mp hx with h | h
    · exact hp x h (e ▸ hin)
    · exact d1 x h e
  have e2 : ∀ x ∈ rl r2 ++ post, x.1 ≠ a := fun x hx e => by
    rcases List.mem_append.mp hx with h | h
    · exact d2 x h e
    · exact hq x h (e ▸ hin)
  have N1 : News h₀ L s.heap ((pre ++ rl r1) ++ (a, listOf vs.toArray vs.length) :: (rl r2 ++ post)) := by rw [hrows, hled] at N; exact N
  refine ksa_set (n := vs.length) (news := (pre ++ rl r1) ++ (a, listOf vs.toArray vs.length) :: (rl r2 ++ post)) (news' := (pre ++ rl r1) ++ (a, lst (vs.set q.toNat (.int v u))) :: (rl r2 ++ post)) F N1 ?_ hiv q0 q1 (by omega) ?_
  · have hl2 : (lst (vs.set q.toNat (.int v u)) : Obj) = listOf (vs.set q.toNat (.int v u)).toArray vs.length := by
      show listOf _ _ = _
      rw [List.length_set]
    rw [hl2]
    clear N1
    generalize pre ++ rl r1 = l at e1
    induction l with
    | nil => exact Upd.head e2
    | cons b l ih => exact Upd.tail (e1 b (by simp)) (ih fun x hx => e1 x (by simp [hx]))
  · intro h' F' N' hi' _ _
    refine h h' (r1 ++ (a, vs.set q.toNat (.int v u)) :: r2) F' (by rw [hled]; exact N') (by rw [← hA, hrows]; simp) ?_
    intro p r hpr
    unfold updT
    by_cases hpk : p = k.toNat
    · subst hpk
      rw [if_pos rfl]
      have : (r1 ++ (a, vs.set q.toNat (.int v u)) :: r2)[k.toNat]? = some (a, vs.set q.toNat (.int v u)) := by rw [← hr1]; simp
      rw [this] at hpr
      rw [← Option.some.inj hpr]
      exact hi'
    · rw [if_neg hpk]
      refine hR p r ?_
      rw [hrows]
      by_cases hlt : p < r1.length
      · rw [List.getElem?_append_left hlt] at hpr ⊢; exact hpr
      · rw [List.getElem?_append_right (by omega)] at hpr ⊢
        obtain ⟨d, hd⟩ : ∃ d, p - r1.length = d + 1 := ⟨p - r1.length - 1, by omega⟩
        rw [hd] at hpr ⊢
        simpa using hpr
end
end Mine
namespace Mine
def GTab (D : Nat → Nat → Int) (n1 n2 i j : Nat) (T : Nat → List Int) : Prop :=
  (∀ k, k ≤ n1 → (T k).length = n2 + 1) ∧ ∀ k, k ≤ n1 → ∀ q, q ≤ n2 → (k = 0 ∨ q = 0 ∨ k < i ∨ (k = i ∧ q < j)) → (T k).getD q 0 = D k q
section
variable {D : Nat → Nat → Int} {n1 n2 i j : Nat} {T : Nat → List Int} {sw : Bool} {a b : Nat → Str}
theorem GTab.len (h : GTab D n1 n2 i j T) {k : Nat} (hk : k ≤ n1) : (T k).length = n2 + 1 := h.1 k hk
theorem GTab.start : GTab (dt sw a b) n1 n2 1 1 (fun k => (rangeKs 0 (n2 + 1)).map (irow (k : Int))) := by
  refine ⟨fun k _ => by rw [List.length_map, rangeKs_length], fun k hk q hq h => ?_⟩
  have e : ((rangeKs 0 (n2 + 1)).map (irow (k : Int))).getD q 0 = irow k q := by
    have hq' : q < n2 + 1 := by omega
    simp [rangeKs, List.getD, hq']
  rw [e]
  unfold irow
  rcases h with rfl | rfl | h | ⟨rfl, h⟩
  · rw [if_pos (.inl rfl), dt_0]; omega
  · rw [if_pos (.inr rfl), dt_i0]; omega
  · obtain rfl : k = 0 := by omega
    rw [if_pos (.inl rfl), dt_0]; omega
  · obtain rfl : q = 0 := by omega
    rw [if_pos (.inr rfl), dt_i0]; omega
theorem GTab.set (h : GTab D n1 n2 i j T) {v : Int} (hv : v = D i j) (hj : j ≤ n2) (hi : i ≤ n1) (hi1 : 1 ≤ i) (hj1 : 1 ≤ j) : GTab D n1 n2 i (j + 1) (updT T i j v) := by
  refine ⟨fun k hk => ?_, fun k hk q hq hc => ?_⟩
  · unfold updT; split
    · rw [List.length_set]; exact h.1 i hi
    · exact h.1 k hk
  · unfold updT
    by_cases hki : k = i
    · subst hki
      rw [if_pos rfl]
      by_cases hqj : q = j
      · subst hqj
        have hl : q < (T k).length := by rw [h.1 k hk]; omega
        rw [← hv]
        simp [List.getD, hl]
      · have e1 : ((T k).set j v).getD q 0 = (T k).getD q 0 := by
          simp only [List.getD]
          rw [List.getElem?_set_ne (Ne.symm hqj)]
        rw [e1]
        exact h.2 k hk q hq (by omega)
    · rw [if_neg hki]
      exact h.2 k hk q hq (by omega)
theorem GTab.row (h : GTab D n1 n2 i j T) (hj : n2 + 1 ≤ j) : GTab D n1 n2 (i + 1) 1 T := ⟨h.1, fun k hk q hq hc => h.2 k hk q hq (by omega)⟩
theorem GTab.last (h : GTab D n1 n2 i j T) (hi : n1 < i) : (T n1).getD n2 0 = D n1 n2 := h.2 n1 (Nat.le_refl _) n2 (Nat.le_refl _) (by omega)
end
end Mine
namespace Mine
theorem rsz1 (n : Nat) : Builtin.Range.rangeSize 1 ((n : Int) + 1) 1 = ((n : Nat) : Int) := by
  rw [rangeSize_nat]; omega
end Mine
namespace Mine
def gB (sw : Bool) (i j : Int) (p q r t : Str) : Bool := sw && (decide (1 < i) && (decide (1 < j) && ((p == q) && (r == t))))
section
variable {sw : Bool} {i j : Int} {p q r t : Str}
theorem g_f1 : false = gB false i j p q r t := rfl
theorem g_f1' (h : sw = false) : false = gB sw i j p q r t := by rw [h]; rfl
theorem g_f2 (h : ¬ 1 < i) : false = gB sw i j p q r t := by unfold gB; rw [decide_eq_false h]; simp
theorem g_f3 (h : ¬ 1 < j) : false = gB sw i j p q r t := by unfold gB; rw [decide_eq_false h]; simp
theorem g_f4 (h : (p == q) = false) : false = gB sw i j p q r t := by unfold gB; rw [h]; simp
theorem g_f5 (h : (r == t) = false) : false = gB sw i j p q r t := by unfold gB; rw [h]; simp
theorem g_t (h0 : sw = true) (h1 : 1 < i) (h2 : 1 < j) (h3 : (p == q) = true) (h4 : (r == t) = true) : true = gB sw i j p q r t := by unfold gB; rw [h0, h3, h4, decide_eq_true h1, decide_eq_true h2]; rfl
theorem g_t' (h1 : 1 < i) (h2 : 1 < j) (h3 : (p == q) = true) (h4 : (r == t) = true) : true = gB true i j p q r t := g_t rfl h1 h2 h3 h4
theorem g_and (h : gB sw i j p q r t = true) : sw = true ∧ 1 < i ∧ 1 < j ∧ p = q ∧ r = t := by
  unfold gB at h
  simp only [Bool.and_eq_true, decide_eq_true_eq, beq_iff_eq] at h
  exact h
end
theorem if_join {M : Model} {A : Around} {E : Value → Shared → Prop} {s : Shared} {env : Env} {h₀ : Heap} {L : Addr} {m : Str → Option Value} {news : List (Addr × Obj)} {test : Expr} {body orelse : List Stmt} {pos : Pos} {c : Bool} {Q : Flow → Shared → Prop} (F : Fr h₀ L s.heap m) (N : News h₀ L s.heap news)
    (hc : wpAny M A (isTrue test env (eval test env)) (fun k s₂ => KJoinC c h₀ L m news s k s₂) E s)
    (ht : c = true → ∀ h tk, Fr h₀ L h m → News h₀ L h news → wpAny M A (execs body env) Q E { s with heap := h, toks := tk })
    (hf : c = false → ∀ h tk, Fr h₀ L h m → News h₀ L h news → wpAny M A (execs orelse env) Q E { s with heap := h, toks := tk }) :
    wpAny M A (exec (.If test body orelse pos) env) Q E s := by
  refine wpAny_If (wpAny_mono hc (fun k s₂ hkc => ?_) fun _ _ h => h)
  obtain ⟨hkc, h, tk, rfl, F, N⟩ := hkc
  subst hkc
  cases k with
  | true => exact ht rfl h tk F N
  | false => exact hf rfl h tk F N
end Mine
namespace Mine
open PyProof.Rows.LCg
theorem rl_map (rows : List (Addr × List Value)) : (rl rows).map (·.1) = rows.map (·.1) := by
  unfold rl; rw [List.map_map]; rfl
theorem own_off {own led : List (Addr × Obj)} {rows : List (Addr × List Value)} {as : List Addr} (h : OwnOff own (led.map (·.1))) (hs : ∀ p ∈ rl rows, p ∈ led) (hA : rows.map (·.1) = as) : ∀ p ∈ own, p.1 ∉ as := by
  intro p hp hin
  rw [← hA, ← rl_map] at hin
  obtain ⟨q, hq, e⟩ := List.mem_map.mp hin
  exact h p hp q.1 (List.mem_map_of_mem (hs q hq)) e.symm
theorem lt_off {d : Addr} {rows : List (Addr × List Value)} {as : List Addr} {rest : List (Addr × Obj)} {P Q : Prop} (h : P ∧ Q ∧ AllLt d (rl rows ++ rest)) (hA : rows.map (·.1) = as) : d ∉ as := by
  intro hin
  rw [← hA, ← rl_map] at hin
  obtain ⟨q, hq, e⟩ := List.mem_map.mp hin
  exact allLt_ne2 h q (List.mem_append_left _ hq) e
theorem z0 {p q : Str} (h : (p == q) = true) : (0 : Int) = if p = q then 0 else 1 := by rw [if_pos (by simpa using h)]
theorem z1 {p q : Str} (h : (p == q) = false) : (1 : Int) = if p = q then 0 else 1 := by rw [if_neg (by simpa using h)]
section
variable {sw : Bool} {x y : Str} {n1 n2 p p8 : Nat} {T : Nat → List Int} {k k8 M z : Int}
theorem sg_at {x : Str} {k : Int} {p : Nat} (h : k = (p : Int)) : Txt.item x k = sg x 0 p := by unfold sg; rw [h]; simp
theorem grid_vals (h : GTab (dt sw (sg x 0) (sg y 0)) n1 n2 (1 + p) (1 + p8) T) (hk : k = 1 + (p : Int)) (hk8 : k8 = 1 + (p8 : Int)) (hp : p < n1) (hp8 : p8 < n2) :
    (T (k - 1).toNat).getD k8.toNat 0 = dt sw (sg x 0) (sg y 0) p (p8 + 1) ∧ (T k.toNat).getD (k8 - 1).toNat 0 = dt sw (sg x 0) (sg y 0) (p + 1) p8 ∧ (T (k - 1).toNat).getD (k8 - 1).toNat 0 = dt sw (sg x 0) (sg y 0) p p8 := by
  have e1 : (k - 1).toNat = p := by omega
  have e2 : k8.toNat = p8 + 1 := by omega
  have e3 : k.toNat = p + 1 := by omega
  have e4 : (k8 - 1).toNat = p8 := by omega
  rw [e1, e2, e3, e4]
  exact ⟨h.2 _ (by omega) _ (by omega) (by omega), h.2 _ (by omega) _ (by omega) (by omega), h.2 _ (by omega) _ (by omega) (by omega)⟩
theorem grid_w3 (h : GTab (dt sw (sg x 0) (sg y 0)) n1 n2 (1 + p) (1 + p8) T) (hk : k = 1 + (p : Int)) (hk8 : k8 = 1 + (p8 : Int)) (hp : p < n1) (hp8 : p8 < n2) (hz : z = if Txt.item x (k - 1) = Txt.item y (k8 - 1) then 0 else 1) :
    w3 sw (sg x 0) (sg y 0) p p8 = min (min ((T (k - 1).toNat).getD k8.toNat 0 + 1) ((T k.toNat).getD (k8 - 1).toNat 0 + 1)) ((T (k - 1).toNat).getD (k8 - 1).toNat 0 + z) := by
  obtain ⟨v1, v2, v3⟩ := grid_vals h hk hk8 hp hp8
  rw [v1, v2, v3, hz, sg_at (x := x) (show k - 1 = (p : Int) by omega), sg_at (x := y) (show k8 - 1 = (p8 : Int) by omega)]
  rfl
theorem grid_f (h : GTab (dt sw (sg x 0) (sg y 0)) n1 n2 (1 + p) (1 + p8) T) (hk : k = 1 + (p : Int)) (hk8 : k8 = 1 + (p8 : Int)) (hp : p < n1) (hp8 : p8 < n2)
    (a : M = (T (k - 1).toNat).getD k8.toNat 0 + 1 ∨ M = (T k.toNat).getD (k8 - 1).toNat 0 + 1 ∨ M = (T (k - 1).toNat).getD (k8 - 1).toNat 0 + z)
    (b : M ≤ (T (k - 1).toNat).getD k8.toNat 0 + 1 ∧ M ≤ (T k.toNat).getD (k8 - 1).toNat 0 + 1 ∧ M ≤ (T (k - 1).toNat).getD (k8 - 1).toNat 0 + z)
    (hz : z = if Txt.item x (k - 1) = Txt.item y (k8 - 1) then 0 else 1) (hc : gB sw k k8 (Txt.item x (k - 1)) (Txt.item y (k8 - 2)) (Txt.item x (k - 2)) (Txt.item y (k8 - 1)) = false) :
    M = dt sw (sg x 0) (sg y 0) (1 + p) (1 + p8) := by
  have hw := grid_w3 h hk hk8 hp hp8 hz
  have e : M = w3 sw (sg x 0) (sg y 0) p p8 := by rw [hw]; omega
  rw [e, Nat.add_comm 1 p, Nat.add_comm 1 p8]
  cases p with
  | zero => rw [dt_10]
  | succ p => cases p8 with
    | zero => rw [dt_i1]
    | succ p8 =>
      rw [dt_ss, if_neg]
      rintro ⟨q1, q2, q3⟩
      rw [sg_at (x := x) (show k - 1 = ((p + 1 : Nat) : Int) by omega), sg_at (x := y) (show k8 - 1 = ((p8 + 1 : Nat) : Int) by omega), sg_at (x := x) (show k - 2 = ((p : Nat) : Int) by omega), sg_at (x := y) (show k8 - 2 = ((p8 : Nat) : Int) by omega)] at hc
      unfold gB at hc
      rw [q1, q2, q3, decide_eq_true (by omega), decide_eq_true (by omega)] at hc
      simp at hc
theorem grid_t (h : GTab (dt sw (sg x 0) (sg y 0)) n1 n2 (1 + p) (1 + p8) T) (hk : k = 1 + (p : Int)) (hk8 : k8 = 1 + (p8 : Int)) (hp : p < n1) (hp8 : p8 < n2)
    (a : M = (T (k - 1).toNat).getD k8.toNat 0 + 1 ∨ M = (T k.toNat).getD (k8 - 1).toNat 0 + 1 ∨ M = (T (k - 1).toNat).getD (k8 - 1).toNat 0 + z ∨ M = (T (k - 2).toNat).getD (k8 - 2).toNat 0 + 1)
    (b : M ≤ (T (k - 1).toNat).getD k8.toNat 0 + 1 ∧ M ≤ (T k.toNat).getD (k8 - 1).toNat 0 + 1 ∧ M ≤ (T (k - 1).toNat).getD (k8 - 1).toNat 0 + z ∧ M ≤ (T (k - 2).toNat).getD (k8 - 2).toNat 0 + 1)
    (hz : z = if Txt.item x (k - 1) = Txt.item y (k8 - 1) then 0 else 1) (hc : gB sw k k8 (Txt.item x (k - 1)) (Txt.item y (k8 - 2)) (Txt.item x (k - 2)) (Txt.item y (k8 - 1)) = true) :
    M = dt sw (sg x 0) (sg y 0) (1 + p) (1 + p8) := by
  have hw := grid_w3 h hk hk8 hp hp8 hz
  obtain ⟨c1, c2, c3, c4, c5⟩ := g_and hc
  obtain ⟨p', rfl⟩ : ∃ p', p = p' + 1 := ⟨p - 1, by omega⟩
  obtain ⟨q', rfl⟩ : ∃ q', p8 = q' + 1 := ⟨p8 - 1, by omega⟩
  have v4 : (T (k - 2).toNat).getD (k8 - 2).toNat 0 = dt sw (sg x 0) (sg y 0) p' q' := by
    rw [show (k - 2).toNat = p' by omega, show (k8 - 2).toNat = q' by omega]
    exact h.2 _ (by omega) _ (by omega) (by omega)
  rw [sg_at (x := x) (show k - 1 = ((p' + 1 : Nat) : Int) by omega), sg_at (x := y) (show k8 - 2 = ((q' : Nat) : Int) by omega)] at c4
  rw [sg_at (x := x) (show k - 2 = ((p' : Nat) : Int) by omega), sg_at (x := y) (show k8 - 1 = ((q' + 1 : Nat) : Int) by omega)] at c5
  rw [Nat.add_comm 1 (p' + 1), Nat.add_comm 1 (q' + 1), dt_ss, if_pos ⟨c1, c4, c5⟩, hw, ← v4]
  omega
theorem gtab_turn {D : Nat → Nat → Int} {pre8 : List Int} (h : GTab D n1 n2 (1 + p) (1 + pre8.length) T) (hv : M = D (1 + p) (1 + pre8.length)) (hk : k = 1 + (p : Int)) (hk8 : k8 = 1 + (pre8.length : Int)) (hp : p < n1) (hp8 : pre8.length < n2) :
    GTab D n1 n2 (1 + p) (1 + (pre8 ++ [k8]).length) (updT T k.toNat k8.toNat M) := by
  have e1 : k.toNat = 1 + p := by omega
  have e2 : k8.toNat = 1 + pre8.length := by omega
  rw [e1, e2, List.length_append]
  exact h.set hv (by omega) (by omega) (by omega) (by omega)
end
end Mine
namespace Mine
open PyProof.Rows.LCg
theorem off_as {rows : List (Addr × List Value)} {as : List Addr} {base : List (Addr × Obj)} (has : rows.map (·.1) = as) (hb : ∀ r ∈ rows, ∀ p ∈ base, p.1 ≠ r.1) : ∀ p ∈ base, p.1 ∉ as := by
  intro p hp hin
  rw [← has] at hin
  obtain ⟨r, hr, e⟩ := List.mem_map.mp hin
  exact hb r hr p hp e.symm
theorem g_off {rows : List (Addr × List Value)} {as : List Addr} {base : List (Addr × Obj)} {G : Addr} (has : rows.map (·.1) = as) (off : ∀ p ∈ rl rows ++ base, p.1 ≠ G) : G ∉ as := by
  intro hin
  rw [← has, ← rl_map] at hin
  obtain ⟨r, hr, e⟩ := List.mem_map.mp hin
  exact off r (List.mem_append_left _ hr) e
theorem pre3 {as : List Addr} {a b c : Addr} {oa ob oc : Obj} (ha : a ∉ as) (hb : b ∉ as) (hc : c ∉ as) : ∀ p ∈ [(a, oa), (b, ob), (c, oc)], p.1 ∉ as := by
  intro p hp
  simp only [List.mem_cons, List.not_mem_nil, or_false] at hp
  rcases hp with rfl | rfl | rfl <;> assumption
theorem app3 {as : List Addr} {a b c : List (Addr × Obj)} (ha : ∀ p ∈ a, p.1 ∉ as) (hb : ∀ p ∈ b, p.1 ∉ as) (hc : ∀ p ∈ c, p.1 ∉ as) : ∀ p ∈ a ++ (b ++ c), p.1 ∉ as := by
  intro p hp
  rcases List.mem_append.mp hp with h | h
  · exact ha p h
  · rcases List.mem_append.mp h with h | h
    · exact hb p h
    · exact hc p h
end Mine
namespace Mine
theorem gtab_lt {D : Nat → Nat → Int} {n1 n2 i j : Nat} {T : Nat → List Int} {k q : Int} (h : GTab D n1 n2 i j T) (h0 : 0 ≤ k) (h1 : k ≤ n1) (hq : q ≤ n2) : q < ((T k.toNat).length : Int) := by
  rw [h.len (by omega)]; omega
theorem gtab_fit {D : Nat → Nat → Int} {n1 n2 i j : Nat} {T : Nat → List Int} {k : Int} (h : GTab D n1 n2 i j T) (h0 : 0 ≤ k) (h1 : k ≤ n1) (hq : n2 ≤ 50) : (T k.toNat).length ≤ 100 := by
  rw [h.len (by omega)]; omega
end Mine
end TGridP

section TRestC
open PySem PySem.W PyProof.Rows
namespace Mine
def restL : List Int := [6, 35, 2, 101, 7, 60, 4, 3, 1, 14, 50, 22, 2, 6, 19, 88, 41, 3, 5, 2, 2, 70, 9, 1]
set_option maxRecDepth 100000 in
set_option maxHeartbeats 0 in
theorem rest : ∀ (w : World) (mean : ExcName → Option Value) (mg mb : Str → Option Value)
   (dp un : Nat) (gd : Option (List Code)) (cn : Str) (cs : Scope) (a : Addr) (ccd : Value) (cl : List (Str × Addr)) (outer : List Env) (A₀ : Around) (base h₀ : Heap) (L : Addr) (m : Str → Option Value) (s : Shared) (Q E : Value → Shared → Prop)
   (news : List (Addr × Obj)) 
   (B : Below A₀ base outer h₀) (F : Fr h₀ L s.heap m) (X : (hd.heap_39 w.params).In h₀) (N : News h₀ L s.heap (news))
   (T : Top hd.view_39 (looseW hd.view_39 [Str.ofString "Levenshtein", Str.ofString "DamerauOsa"]) mean mg mb h₀)
   (hk : cs.kind = .function) (hdp : dp + 10 < recursionLimit) (hun : un + 100 < cLine)
   
   (hret : ∀ (R : Addr) (vs : List Value) (rs : List Int) (h' : Heap) (tk' : Nat), rs.length = 24 → (∀ z ∈ rs, Builtin.Int.intBits z ≤ 1048576) → IntsAre vs rs → Fr h₀ L h' m → News h₀ L h' ((R, listOf vs.toArray 0) :: news) → (∀ p ∈ news, p.1 < R) → Q (.ref R) { s with heap := h', toks := tk' }),
   wpAny (model PySem.Challenge.rw_fp5024_01.row.prog w) (ktrTop dp un gd cn cs L a ccd cl outer) (call (.ref 136) []) Q E s := by
  k_with_none
  w_top off
  k_fill
  intro w mean mg mb dp un gd cn cs a ccd cl outer A₀ base h₀ L m s Q E news  B F X N T hk hdp hun  hret

  refine wpAny_call ?_
  k_dflt cell_enter
  k_steps
  refine hret _ _ restL _ _ rfl (by unfold restL; decide +kernel) ?_ (by k_asm) (by k_asm) (by assumption)
  unfold restL
  repeat' constructor
end Mine
end TRestC

section TTextC
open PySem PySem.W PyProof.Rows
namespace Mine
local macro_rules | `(tactic| walk_at "binaryOp FloorDiv int int") => `(tactic| (k_here; refine' floordiv_int (four_pow_ne _) ?_ (Or.inl (PyProof.noPylong_small (four_pow_small ?hsm))); (case hsm => omega)))
def signOf {z : Int} {b : Nat} (_ : Builtin.Int.intBits z ≤ b) (k : Int) : Str := Txt.item (Str.ofString "ab c") ((z.fdiv (4 ^ k.toNat) + k * (z + 1)).fmod 4)
local macro_rules | `(tactic| walk_at "CompSrc") => `(tactic| (k_here; k_dflt (refine LCg.CompSrc.range (by rfl) (by k_asm) (by k_asm) (by assumption) (by first | decide | exact small_one (by l_bnd) (by l_bnd) (by l_bnd) (by l_bnd)) (by first | exact rangeSize_nat _ _ | rfl) (by first | exact Nat.le_of_ble_eq_true rfl | (rw [PySem.sizeLine_eq]; omega) | size_fits) ?_; intro g'; (rename Builtin.Int.intBits _ ≤ _ => hbX); (refine' kct_range (signOf hbX) (fun k' t' I' oI' C' oC' D' m' ys' h' tk' E' hlo' hhi' hC' hx' F' N' off' ne' => ?_) ?_); (all_goals (try (simp only [LCg.Off3, and_true] at off'))); (all_goals (try ((show KPfMark → _); intro hMark'))); kcf_last)))
local macro_rules | `(tactic| walk_at "CompEnd") => `(tactic| (refine LCg.CompEnd.intro (by assumption) (by assumption) _ ?sub ?off ?hS (kct_el ?e9 rfl rfl); (case e9 => (unfold signOf; with_reducible rfl)); (case sub => kcf_all); (case off => first | assumption | (simp only [LCg.Off3, and_true]; done) | (simp only [LCg.Off3, and_true]; assumption)); (case hS => first | lcg_src | assumption)))
set_option maxRecDepth 100000 in
set_option maxHeartbeats 0 in
theorem text : ∀ (w : World) (mean : ExcName → Option Value) (mg mb : Str → Option Value)
   (dp un : Nat) (gd : Option (List Code)) (cn : Str) (cs : Scope) (a : Addr) (ccd : Value) (cl : List (Str × Addr)) (outer : List Env) (A₀ : Around) (base h₀ : Heap) (L : Addr) (m : Str → Option Value) (s : Shared) (Q E : Value → Shared → Prop)
   (news : List (Addr × Obj)) (z : Int) (tz : Tok) (k : Int) (tn : Tok)
   (B : Below A₀ base outer h₀) (F : Fr h₀ L s.heap m) (X : (hd.heap_39 w.params).In h₀) (N : News h₀ L s.heap (news))
   (T : Top hd.view_39 (looseW hd.view_39 [Str.ofString "Levenshtein", Str.ofString "DamerauOsa"]) mean mg mb h₀)
   (hk : cs.kind = .function) (hdp : dp + 10 < recursionLimit) (hun : un + 100 < cLine)
   (hb : Builtin.Int.intBits z ≤ 1100000) (hk0 : 0 ≤ k) (hk7 : k ≤ 7)
   (hret : ∀ (r : Str) (t : Tok) (h' : Heap) (tk' : Nat), r.length = k.toNat → Fr h₀ L h' m → News h₀ L h' news → Q (.str r t) { s with heap := h', toks := tk' }),
   wpAny (model PySem.Challenge.rw_fp5024_01.row.prog w) (ktrTop dp un gd cn cs L a ccd cl outer) (call (.ref 141) [.int z tz, .int k tn]) Q E s := by
  k_with_none
  w_top off
  k_fill
  intro w mean mg mb dp un gd cn cs a ccd cl outer A₀ base h₀ L m s Q E news z tz k tn B F X N T hk hdp hun hb hk0 hk7 hret
  obtain ⟨n, rfl⟩ := Int.eq_ofNat_of_zero_le hk0
  have hn : n ≤ 7 := by omega
  clear hk0 hk7
  refine wpAny_call ?_
  k_dflt (refine' code_defC ?k1 ?k2 ?k3 ?k4 ?k5 ?kA ?kF ?kK ?k6 ?k7 ?k8 ?k9 ?kB ?kD ?_ ?c2 ?c3 ?c4; (case kA => exact rfl); (case kF => exact rfl); (case kK => assumption); (case k1 => k_asm); (case k2 => k_asm); (case k3 => k_asm); (case k4 => k_asm); (case k5 => k_asm); (case k6 => k_is); (case k7 => k_is); (case k8 => ktr_room); (case k9 => exact BindsTo.of_eq rfl); (case kB => exact rfl); (case kD => decide +kernel); (case c2 => exact rfl); (case c3 => exact rfl); (case c4 => exact rfl); k_whole; intro g' L' h' tk' cells' FG' F' N' Y' B' X' T' l1; (try k_lt l1); k_cells Y'; (try simp only [List.cons_append, List.nil_append] at N'); (try dsimp only); (try k_lift B'); (try k_fold))
  k_steps
  refine hret _ _ _ _ ?_ (by assumption) (by first | assumption | (refine' cb_drop ?cbN ?cbS; (case cbN => assumption); (case cbS => kcj_all)))
  exact Eq.trans (by assumption) (by rw [rangeKs_length]; omega)
end Mine
end TTextC

section TSpoilC
open PySem PySem.W PyProof.Rows
namespace Mine
set_option maxRecDepth 100000 in
set_option maxHeartbeats 0 in
theorem spoil : ∀ (w : World) (mean : ExcName → Option Value) (mg mb : Str → Option Value)
   (dp un : Nat) (gd : Option (List Code)) (cn : Str) (cs : Scope) (a : Addr) (ccd : Value) (cl : List (Str × Addr)) (outer : List Env) (A₀ : Around) (base h₀ : Heap) (L : Addr) (m : Str → Option Value) (s : Shared) (Q E : Value → Shared → Prop)
   (news : List (Addr × Obj)) (x : Str) (tx : Tok) (z : Int) (tz : Tok)
   (B : Below A₀ base outer h₀) (F : Fr h₀ L s.heap m) (X : (hd.heap_39 w.params).In h₀) (N : News h₀ L s.heap (news))
   (T : Top hd.view_39 (looseW hd.view_39 [Str.ofString "Levenshtein", Str.ofString "DamerauOsa"]) mean mg mb h₀)
   (hk : cs.kind = .function) (hdp : dp + 10 < recursionLimit) (hun : un + 100 < cLine)
   (hx : x.length ≤ 11)
   (hret : ∀ (r : Str) (t : Tok) (h' : Heap) (tk' : Nat), r.length ≤ x.length + 1 → Fr h₀ L h' m → News h₀ L h' news → Q (.str r t) { s with heap := h', toks := tk' }),
   wpAny (model PySem.Challenge.rw_fp5024_01.row.prog w) (ktrTop dp un gd cn cs L a ccd cl outer) (call (.ref 148) [.str x tx, .int z tz]) Q E s := by
  k_with_none
  w_top off
  k_fill
  intro w mean mg mb dp un gd cn cs a ccd cl outer A₀ base h₀ L m s Q E news x tx z tz B F X N T hk hdp hun hx hret
  have hfm := fmod_bnd (z.fdiv 24) x.length
  refine wpAny_call ?_
  k_dflt cell_enter
  k_steps
  all_goals (refine hret _ _ _ _ ?_ (by assumption) (by first | assumption | (refine' cb_drop ?cbN ?cbS; (case cbN => assumption); (case cbS => kcj_all))))
  all_goals first | with_reducible exact sp_a (len_item _ _) | with_reducible exact sp_b | with_reducible exact sp_c (len_item _ _) | with_reducible exact sp_d (len_item _ _) (len_item _ _) (by assumption) | with_reducible exact Nat.le_succ _
end Mine
end TSpoilC

section TGridC
open PySem PySem.W PyProof.Rows
namespace Mine
local macro_rules | `(tactic| walk_at "CompSrc") => `(tactic| (refine Hold.out ?_))
local macro_rules | `(tactic| walk_at "FinE") => `(tactic| (refine Hold.out ?_))
local macro_rules | `(tactic| walk_at "pyIter ref") => `(tactic| (refine Hold.out ?_))
local macro_rules | `(tactic| walk_at "InvEndN") => `(tactic| (refine Hold.out ?_))
local macro_rules | `(tactic| walk_at "KJoinC") => `(tactic| (refine Hold.out ?_))
local macro_rules | `(tactic| walk_at "exec If") => `(tactic| (refine Hold.out ?_))
local macro_rules | `(tactic| walk_at "setItem ref int") => `(tactic| (refine Hold.out ?_))
local macro_rules | `(tactic| walk_at "call type:range") => `(tactic| (k_here; (rename Fr _ _ _ _ => F'); (rename News _ _ _ _ => N'); first | (with_unfolding_all refine range1_rows F' N' ?_; intro _ _ _ _ _ _ _ _ _) | (with_unfolding_all refine range2_rows F' N' ?_; intro _ _ _ _ _ _ _ _ _)))
local macro_rules | `(tactic| k_all) => `(tactic| first | exact allLt_ne2 (by assumption) | (refine List.forall_mem_append.mpr ⟨?ka, ?kb⟩; (case ka => k_all); (case kb => k_all)))
local macro_rules | `(tactic| walk_at "subscriptTail") => `(tactic| (k_here; (with_reducible show wpAny _ _ (subscriptTail _ _ (Value.ref _) (Value.int _ _)) _ _ _); refine' grid_row ?g1 ?g2 ?g3 ?g4 ?g5 ?_; (case g1 => k_asm); (case g2 => k_memK); (case g3 => omega); (case g4 => omega); (case g5 => omega)))
local macro_rules | `(tactic| walk_at "subscriptTail") => `(tactic| (k_here; (with_reducible show wpAny _ _ (subscriptTail _ _ (Value.ref (rowA _ _)) (Value.int _ _)) _ _ _); refine' grid_cell ?g1 ?g2 ?g3 ?g4 ?g5 ?g6 ?g7 ?g8 ?g9 ?_; (case g1 => k_asm); (case g2 => (intro p hp; kcf_m)); (case g3 => assumption); (case g4 => assumption); (case g5 => omega); (case g6 => omega); (case g7 => omega); (case g8 => exact gtab_lt (by assumption) (by omega) (by omega) (by omega)); (case g9 => exact gtab_fit (by assumption) (by omega) (by omega) (by omega)); intro _))
set_option maxRecDepth 100000 in
set_option maxHeartbeats 0 in
theorem grid : ∀ (w : World) (mean : ExcName → Option Value) (mg mb : Str → Option Value)
   (dp un : Nat) (gd : Option (List Code)) (cn : Str) (cs : Scope) (a : Addr) (ccd : Value) (cl : List (Str × Addr)) (outer : List Env) (A₀ : Around) (base h₀ : Heap) (L : Addr) (m : Str → Option Value) (s : Shared) (Q E : Value → Shared → Prop)
   (news : List (Addr × Obj)) (x y : Str) (tx ty : Tok) (sw : Bool)
   (B : Below A₀ base outer h₀) (F : Fr h₀ L s.heap m) (X : (hd.heap_39 w.params).In h₀) (N : News h₀ L s.heap (news))
   (T : Top hd.view_39 (looseW hd.view_39 [Str.ofString "Levenshtein", Str.ofString "DamerauOsa"]) mean mg mb h₀)
   (hk : cs.kind = .function) (hdp : dp + 10 < recursionLimit) (hun : un + 100 < cLine)
   (hx1 : 1 ≤ x.length) (hx : x.length ≤ 7) (hy1 : 1 ≤ y.length) (hy : y.length ≤ 7)
   (hret : ∀ (t : Tok) (h' : Heap) (tk' : Nat), Fr h₀ L h' m → News h₀ L h' news → Q (.int (dt sw (sg x 0) (sg y 0) x.length y.length) t) { s with heap := h', toks := tk' }),
   wpAny (model PySem.Challenge.rw_fp5024_01.row.prog w) (ktrTop dp un gd cn cs L a ccd cl outer) (call (.ref 153) [.str x tx, .str y ty, .bool sw]) Q E s := by
  k_with_none
  w_top off
  k_fill
  intro w mean mg mb dp un gd cn cs a ccd cl outer A₀ base h₀ L m s Q E news x y tx ty sw B F X N T hk hdp hun hx1 hx hy1 hy hret

  refine wpAny_call ?_
  k_dflt (refine' code_defC ?k1 ?k2 ?k3 ?k4 ?k5 ?kA ?kF ?kK ?k6 ?k7 ?k8 ?k9 ?kB ?kD ?_ ?c2 ?c3 ?c4; (case kA => exact rfl); (case kF => exact rfl); (case kK => assumption); (case k1 => k_asm); (case k2 => k_asm); (case k3 => k_asm); (case k4 => k_asm); (case k5 => k_asm); (case k6 => k_is); (case k7 => k_is); (case k8 => ktr_room); (case k9 => exact BindsTo.of_eq rfl); (case kB => exact rfl); (case kD => decide +kernel); (case c2 => exact rfl); (case c3 => exact rfl); (case c4 => exact rfl); k_whole; intro g' L' h' tk' cells' FG' F' N' Y' B' X' T' l1; (try k_lt l1); k_cells Y'; (try simp only [List.cons_append, List.nil_append] at N'); (try dsimp only); (try k_lift B'); (try k_fold))
  k_steps
  rename Obj => oT
  rename _ = Data.cell _ => hdT
  refine AssignX (cl := [(Str.ofString "two", L' + 1)]) (x.length + 1) (GJ y.length ((L' + 1, oT) :: news)) (by k_asm) rfl (by with_unfolding_all rfl) (by with_unfolding_all rfl) (fun _ => rfl) (fun _ => rfl) rfl (by decide) (by rfl) (by rfl) (by rfl) ?_
  k_steps
  refine ⟨_, _, _, _, _, _, _, rfl, rfl, by assumption, by assumption, by assumption, ?sm, ?rs, ?le, GJ.start, ?turn, ?done⟩
  case sm => exact small_one (by l_bnd) (by l_bnd) (by l_bnd) (by l_bnd)
  case rs => exact rsz _
  case le => rw [PySem.sizeLine_eq]; omega
  case turn =>
    intro i ys news' X1 I1 C1 D1 oX oI oC t' h3 tk3 E' hi hJ hd F3 N3 off3 ne3
    have N4 := news_five N3 (gj_base hJ (L' + 1, oT) (by simp))
    k_dflt (refine LCg.ListComp_U (F₀ := by k_asm) (by with_unfolding_all rfl) (by decide) (by rfl) (by decide) (by rfl) ?_)
    k_steps
    refine Hold.into ?_
    refine LCg.CompSrc.range (n := y.length + 1) (by rfl) (by k_asm) (by k_asm) (by assumption) (small_one (by l_bnd) (by l_bnd) (by l_bnd) (by l_bnd)) (rsz _) (by rw [PySem.sizeLine_eq]; omega) ?_
    intro g3
    refine kcf_range (irow (i : Int)) (fun k' t4 I4 oI4 C4 oC4 D4 m4 ys4 h4 tk4 E4 hlo4 hhi4 hC4 hx4 F4 N4 off4 ne4 hMark4 => ?_) ?_
    · simp only [LCg.Off3, and_true] at off4
      k_steps
      all_goals (refine kcf_el (by (unfold irow; first | (rw [if_pos (by omega)]; omega) | rw [if_neg (by omega)])) rfl rfl)
    · k_steps
      refine Hold.into ?_
      unfold LCg.FinE
      intro D5 h5 tk5 F5 N5 o5
      exact xend_grid (extra := [(L' + 1, oT)]) F5 N5 hJ off3 o5 (by assumption)
  case done =>
    intro G h6 tk6 gs news6 hJ6 F6 N6 off6
    obtain ⟨rows, hl6, hy6, rfl, hnd6, hb6, hr6⟩ := hJ6
    subst hy6
    generalize has : rows.map (·.1) = as
    have hgs : rows.map (fun r => Value.ref r.1) = as.map Value.ref := by rw [← has, List.map_map]; rfl
    rw [hgs] at N6
    have hal : as.length = x.length + 1 := by rw [← has, List.length_map, hl6]
    rw [has] at hnd6
    have hbas := off_as has hb6
    have hTas := hbas (L' + 1, oT) (by simp)
    have hnas : ∀ p ∈ news, p.1 ∉ as := fun p hp => hbas p (by simp [hp])
    have hGas := g_off has off6
    have N7 : News g' L' h6 ((L' + 1, oT) :: (G, LCg.lst (as.map Value.ref)) :: (rl rows ++ news)) := fun p hp => N6 p (by simp only [List.mem_cons, List.mem_append] at hp ⊢; grind)
    clear N6
    k_steps
    refine Hold.into ?_
    refine kst_range (σ := List (Addr × List Value) × (Nat → List Int)) (a₀ := 1) (b₀ := (x.length : Int) + 1) (n := x.length) (fun c => (L' + 1, oT) :: (G, LCg.lst (as.map Value.ref)) :: (rl c.1 ++ news)) (fun _ => []) (fun c => c.1.map (·.1) = as ∧ RowsAre c.1 c.2) [Str.ofString "j", Str.ofString "ways"] (fun pre c => GTab (dt sw (sg x 0) (sg y 0)) x.length y.length (1 + pre.length) 1 c.2) (rows, fun k => (rangeKs 0 (y.length + 1)).map (irow (k : Int))) rfl (by assumption) (small_one (by l_bnd) (by l_bnd) (by l_bnd) (by l_bnd)) (rsz1 _) (by assumption) (by assumption) ⟨has, hr6⟩ (by intro p hp; cases hp) GTab.start ?turn ?done2
    case turn =>
      intro c pre k t u h7 tk7 own7 hk7 hlt7 hown7 hf7 hP7 F7 N7
      obtain ⟨hc7, hR7⟩ := hf7
      have hoas7 := own_off hown7 (fun p hp => by simp only [List.mem_cons, List.mem_append]; simp [hp]) has
      (try dsimp only at F7); (try dsimp only at N7); (try dsimp only at hP7); (try dsimp only at hc7); (try dsimp only at hR7)
      simp only [List.cons_append, List.append_assoc] at N7
      (try k_fold)
      k_steps
      refine Hold.into ?_
      refine kst_range (σ := List (Addr × List Value) × (Nat → List Int)) (a₀ := 1) (b₀ := (y.length : Int) + 1) (n := y.length) (fun c => (L' + 1, oT) :: (G, LCg.lst (as.map Value.ref)) :: (rl c.1 ++ (news ++ own7))) (fun _ => []) (fun c => c.1.map (·.1) = as ∧ RowsAre c.1 c.2) [Str.ofString "ways"] (fun pre' c => GTab (dt sw (sg x 0) (sg y 0)) x.length y.length (1 + pre.length) (1 + pre'.length) c.2) c rfl (by assumption) (small_one (by l_bnd) (by l_bnd) (by l_bnd) (by l_bnd)) (rsz1 _) (by assumption) (by assumption) ⟨hc7, hR7⟩ (by intro p hp; cases hp) hP7 ?turn2 ?done3
      case turn2 =>
        clear hP7
        intro c8 pre8 k8 t8 u8 h8 tk8 own8 hk8 hlt8 hown8 hf8 hP8 F8 N8
        obtain ⟨hc8, hR8⟩ := hf8
        have hc7e := hc7
        have hoas8 := own_off hown8 (fun p hp => by simp only [List.mem_cons, List.mem_append]; simp [hp]) hc7
        clear hR7 hc7
        (try dsimp only at F8); (try dsimp only at N8); (try dsimp only at hP8); (try dsimp only at hc8); (try dsimp only at hR8)
        simp only [List.cons_append, List.append_assoc] at N8
        (try k_fold)
        k_steps
        all_goals (refine Hold.into ?_)
        all_goals (refine if_join (c := gB sw k k8 (Txt.item x (k - 1)) (Txt.item y (k8 - 2)) (Txt.item x (k - 2)) (Txt.item y (k8 - 1))) (h₀ := g') (L := L') (by k_asm) (by k_asm) (by
            (try k_fold)
            k_steps
            all_goals (refine Hold.into ?_)
            all_goals (refine ⟨?_, ⟨⟨_, _, rfl, by k_asm, by k_asm⟩⟩⟩)
            all_goals first | exact g_f1' (by assumption) | exact g_f2 (by assumption) | exact g_f3 (by assumption) | exact g_f4 (by assumption) | exact g_f5 (by assumption) | exact g_t (by assumption) (by assumption) (by assumption) (by assumption) (by assumption)) (by
            intro hc h9 tk9 F9 N9
            obtain ⟨hg1, hg2, hg3, hg4, hg5⟩ := g_and hc
            (try k_fold)
            k_steps
            refine Hold.into ?_
            refine grid_set (pre := [(_, _), (_, _), (_, _)]) (post := news ++ (own7 ++ own8)) (by k_asm) (by k_asm) hc8 hnd6 (pre3 (lt_off (by assumption) hc8) hTas hGas) (app3 hnas hoas7 hoas8) hR8 (by omega) (by omega) (by omega) (gtab_lt hP8 (by omega) (by omega) (by omega)) (gtab_fit hP8 (by omega) (by omega) (by omega)) ?_
            intro h10 rows10 F10 N10 hA10 hR10
            have hT10 := gtab_turn hP8 (grid_t hP8 hk7 hk8 hlt7 hlt8 (by assumption) (by assumption) (by first | exact z0 (by assumption) | exact z1 (by assumption)) hc) hk7 hk8 hlt7 hlt8
            k_steps
            refine Hold.into ?_
            refine kst_end (c := (rows10, _)) (by k_asm) (by k_asm) ?hn ?ho ?ha ⟨hA10, hR10⟩ (by intro p hp; cases hp) (by intro z h1 h2 h3; simp only [List.contains_cons, List.contains_nil, Bool.or_false, Bool.or_eq_false_iff, beq_eq_false_iff_ne, ne_eq] at h3; simp only [kstB, List.contains_cons, List.contains_nil, Bool.or_false, Bool.or_eq_true, beq_iff_eq, h1, h3, or_self, if_false]) hT10
            case hn => intro p hp; simp only [List.mem_cons, List.mem_append, List.not_mem_nil, or_false] at hp ⊢; grind
            case ho => intro p hp; simp only [List.mem_cons, List.mem_append, List.not_mem_nil, or_false] at hp ⊢; grind
            case ha => simp only [List.map_cons, List.map_append, rl_map, hA10, has, hc7e]) (by
            intro hc h9 tk9 F9 N9
            (try k_fold)
            k_steps
            refine Hold.into ?_
            refine grid_set (pre := [(_, _), (_, _), (_, _)]) (post := news ++ (own7 ++ own8)) (by k_asm) (by k_asm) hc8 hnd6 (pre3 (lt_off (by assumption) hc8) hTas hGas) (app3 hnas hoas7 hoas8) hR8 (by omega) (by omega) (by omega) (gtab_lt hP8 (by omega) (by omega) (by omega)) (gtab_fit hP8 (by omega) (by omega) (by omega)) ?_
            intro h10 rows10 F10 N10 hA10 hR10
            have hT10 := gtab_turn hP8 (grid_f hP8 hk7 hk8 hlt7 hlt8 (by assumption) (by assumption) (by first | exact z0 (by assumption) | exact z1 (by assumption)) hc) hk7 hk8 hlt7 hlt8
            k_steps
            refine Hold.into ?_
            refine kst_end (c := (rows10, _)) (by k_asm) (by k_asm) ?hn ?ho ?ha ⟨hA10, hR10⟩ (by intro p hp; cases hp) (by intro z h1 h2 h3; simp only [List.contains_cons, List.contains_nil, Bool.or_false, Bool.or_eq_false_iff, beq_eq_false_iff_ne, ne_eq] at h3; simp only [kstB, List.contains_cons, List.contains_nil, Bool.or_false, Bool.or_eq_true, beq_iff_eq, h1, h3, or_self, if_false]) hT10
            case hn => intro p hp; simp only [List.mem_cons, List.mem_append, List.not_mem_nil, or_false] at hp ⊢; grind
            case ho => intro p hp; simp only [List.mem_cons, List.mem_append, List.not_mem_nil, or_false] at hp ⊢; grind
            case ha => simp only [List.map_cons, List.map_append, rl_map, hA10, has, hc7e]))
      case done3 =>
        intro c9 u9 h9 tk9 hf9 hP9 F9 N9
        obtain ⟨hc9, hR9⟩ := hf9
        (try k_fold)
        k_steps
        refine Hold.into ?_
        refine kst_end (c := c9) (by k_asm) (by k_asm) ?hn ?ho ?ha ⟨hc9, hR9⟩ (by intro p hp; cases hp) (by intro z h1 h2 h3; simp only [List.contains_cons, List.contains_nil, Bool.or_false, Bool.or_eq_false_iff, beq_eq_false_iff_ne, ne_eq] at h3; simp only [kstB, List.contains_cons, List.contains_nil, Bool.or_false, Bool.or_eq_true, beq_iff_eq, h1, h3, or_self, if_false]) ?hp
        case hn => intro p hp; simp only [List.mem_cons, List.mem_append, List.not_mem_nil, or_false] at hp ⊢; grind
        case ho => intro p hp; simp only [List.mem_cons, List.mem_append, List.not_mem_nil, or_false] at hp ⊢; grind
        case ha => simp only [List.map_cons, List.map_append, rl_map, hc9, has]
        case hp => rw [List.length_append]; exact GTab.row hP9 (by rw [rangeKs_length]; omega)
    case done2 =>
      intro c9 u9 h9 tk9 hf9 hP9 F9 N9
      obtain ⟨hc9, hR9⟩ := hf9
      (try dsimp only at F9); (try dsimp only at N9); (try dsimp only at hP9); (try dsimp only at hc9); (try dsimp only at hR9)
      (try k_fold)
      k_steps
      refine cb_retI (Q := Q) hret ?e1 ?e2 ?e3
      case e1 =>
        rw [rangeKs_length] at hP9
        exact GTab.last hP9 (by omega)
      case e2 => k_asm
      case e3 => first | k_asm | (refine' cb_drop ?cbN ?cbS; (case cbN => assumption); (case cbS => kcj_all))
end Mine
end TGridC

section TTurns
open PySem PySem.W PyProof.Rows PySem.Spec PySem.Calls
namespace Mine
section
variable {prog : Program} {w : World} {A : Around} {E : Value → Shared → Prop} {s : Shared} {env : Env} {h₀ : Heap} {target : Expr} {body : List Stmt} {Q : Flow → Shared → Prop}
theorem post_mono {L : Addr} {s₁ : Shared} {its : List (Addr × Obj)} {R R' : (Str → Option Value) → List (Addr × Obj) → Prop} (h : ∀ m n, R m n → R' m n) {f : Flow} {s₂ : Shared} (x : UnrPostW h₀ L s₁ its R Q f s₂) : UnrPostW h₀ L s₁ its R' Q f s₂ := by
  have key : UnrEndW h₀ L s₁ its R s₂ → UnrEndW h₀ L s₁ its R' s₂ := fun ⟨h', tk, m', n', e, F, N, o, r⟩ => ⟨h', tk, m', n', e, F, N, o, h _ _ r⟩
  cases f with
  | ret v => exact x
  | brk => exact x
  | next => exact key x
  | cont => exact key x
theorem items_inv {I : Addr} {cls : String} {keep : List (Addr × Obj)} (vs : List Value) (J : Nat → (Str → Option Value) → List (Addr × Obj) → Prop) {m₀ : Str → Option Value} {news : List (Addr × Obj)} (h0 : J 0 m₀ news)
    (turn : ∀ i v m news h tk o, vs[i]? = some v → J i m news → Fr h₀ env.locals h m → o.cls = .type cls → News h₀ env.locals h ((I, o) :: news) →
      wpAny (model prog w) A (assign target env v) (fun _ s₂ => wpAny (model prog w) A (execs body env) (UnrPostW h₀ env.locals { s with heap := h, toks := tk } [(I, o)] (fun m' n' => SubL keep n' ∧ J (i + 1) m' n') Q) E s₂) E { s with heap := h, toks := tk })
    (done : ∀ m news h tk, J vs.length m news → Fr h₀ env.locals h m → News h₀ env.locals h news → Q .next { s with heap := h, toks := tk }) :
    ItemsRest prog w A E h₀ env target body Q s [(I, cls)] keep (vs.map .val) m₀ news := by
  have key : ∀ (k i : Nat) m news, i + k = vs.length → J i m news → ItemsRest prog w A E h₀ env target body Q s [(I, cls)] keep ((vs.drop i).map .val) m news := by
    intro k
    induction k with
    | zero =>
      intro i m news hi hJ
      rw [List.drop_of_length_le (by omega)]
      have e : i = vs.length := by omega
      subst e
      exact ItemsRest.zero fun h tk F N => done m news h tk hJ F N
    | succ k ih =>
      intro i m news hi hJ
      have hlt : i < vs.length := by omega
      rw [List.drop_eq_getElem_cons hlt, List.map_cons]
      refine ItemsRest.val fun h tk F => AllObj.cons fun o ho => AllObj.nil fun N => ?_
      refine wpAny_mono (turn i vs[i] m news h tk o (by simp [hlt]) hJ F ho N) (fun _ s₂ x => wpAny_mono x (fun f s₃ y => post_mono (fun m' n' z => ⟨z.1, ih (i + 1) m' n' (by omega) z.2⟩) y) fun _ _ e => e) fun _ _ e => e
  exact key vs.length 0 m₀ news (by omega) h0
end
end Mine
end TTurns

section TPairsP
open PySem PySem.W PyProof.Rows PySem.Spec PySem.Calls
namespace Mine
structure MarkA : Prop where
  mk ::
structure PT where
  a : Addr
  x : Str
  tx : Tok
  y : Str
  ty : Tok
  p : Int
  tp : Tok
def PT.obj (q : PT) : Obj := { cls := .type "tuple", data := .seq #[.str q.x q.tx, .str q.y q.ty, .int q.p q.tp] }
def pl (ps : List PT) : List (Addr × Obj) := ps.map fun q => (q.a, q.obj)
def PT.ok (q : PT) : Prop := 1 ≤ q.x.length ∧ q.x.length ≤ 7 ∧ 1 ≤ q.y.length ∧ q.y.length ≤ 7 ∧ 0 ≤ q.p ∧ q.p ≤ 3
def pvals (ps : List PT) : List Value := ps.map fun q => .ref q.a
theorem draws24 {ns rs : List Int} {ws : List Value} (hL : rs.length = 24) (hb : ∀ z ∈ rs, Builtin.Int.intBits z ≤ 1048576) (hn : ∀ z ∈ ns, Builtin.Int.intBits z ≤ 1048576) (hI : IntsAre ws (List.take (Int.toNat 24) (ns ++ List.drop (ns.length : Int).toNat rs))) :
    ∃ ds, IntsAre ws ds ∧ ds.length = 24 ∧ ∀ z ∈ ds, Builtin.Int.intBits z ≤ 1048576 := by
  refine ⟨_, hI, ?_, fun z hz => ?_⟩
  · rw [List.length_take, List.length_append, List.length_drop, hL]
    have e : Int.toNat 24 = 24 := rfl
    omega
  · rcases List.mem_append.mp (List.mem_of_mem_take hz) with h | h
    · exact hn z h
    · exact hb z (List.mem_of_mem_drop h)
theorem bits_ok {ds : List Int} (h : ∀ z ∈ ds, Builtin.Int.intBits z ≤ 1048576) (k : Nat) : Builtin.Int.intBits (ds.getD k 0) ≤ 1100000 := by
  by_cases hk : k < ds.length
  · have e : ds.getD k 0 = ds[k] := by simp [List.getD, hk]
    rw [e]
    exact Nat.le_trans (h _ (List.getElem_mem hk)) (by decide)
  · have e : ds.getD k 0 = 0 := by simp [List.getD, Nat.not_lt.mp hk]
    rw [e]; decide
theorem fm_bnd (z : Int) {n : Int} (h : 0 < n) : 0 ≤ z.fmod n ∧ z.fmod n < n := ⟨Int.fmod_nonneg_of_pos z h, Int.fmod_lt_of_pos z h⟩
theorem sp_step {l pre post : List Int} {n : Int} {t r : Nat} (hE : l = pre ++ n :: post) (h : t ≤ 7 + pre.length) (h2 : r ≤ t + 1) : r ≤ 7 + (pre ++ [n]).length := by
  rw [List.length_append]; simp; omega
theorem sp_pre {l pre post : List Int} {n : Int} {t : Nat} (hE : l = pre ++ n :: post) (h : t ≤ 7 + pre.length) (hl : l.length ≤ 4) : t ≤ 11 := by
  rw [hE, List.length_append] at hl; simp at hl; omega
/-- what the ledger of the loop over (0, 8, 16) is -/
def PLed (T Pa Da I : Addr) (oT : Obj) (ws : List Value) (news : List (Addr × Obj)) (m₀ : Str → Option Value) (i : Nat) (m : Str → Option Value) (nw : List (Addr × Obj)) : Prop :=
  ∃ (ps : List PT) (n : Nat) (u : Str → Option Value), nw = (T, oT) :: (Pa, listOf (pvals ps).toArray n) :: (Da, listOf ws.toArray 0) :: (pl ps ++ news) ∧ m = (fun z => if [Str.ofString "at", Str.ofString "first", Str.ofString "text", Str.ofString "number"].contains z then u z else m₀ z) ∧
    2 ≤ ps.length ∧ ps.length ≤ 2 + i ∧ (∀ q ∈ ps, q.ok) ∧ (∀ p ∈ pl ps ++ news, p.1 ≠ Pa) ∧ (∀ p ∈ pl ps ++ news, p.1 ≠ I) ∧ (∀ p ∈ pl ps ++ news, p.1 ≠ T)
section
variable {prog : Program} {w : World} {A : Around} {E : Value → Shared → Prop} {s : Shared} {env : Env} {h₀ : Heap} {target : Expr} {body : List Stmt} {Q : Flow → Shared → Prop} {m₀ : Str → Option Value}
theorem pairs_loop {T Pa Da a1 a2 : Addr} {x1 y1 x2 y2 : Str} {p1 p2 : Int} {tx1 ty1 tp1 tx2 ty2 tp2 t0 t8 t16 : Tok} {ws : List Value} {c1 c2 c3 : Addr × Obj} {news : List (Addr × Obj)}
    (hh : A.handled = none) (F : Fr h₀ env.locals s.heap m₀)
    (N : News h₀ env.locals s.heap ((T, { cls := .type "tuple", data := .seq #[.int 0 t0, .int 8 t8, .int 16 t16] }) :: (Pa, listOf #[.ref a1, .ref a2] 0) :: (a2, { cls := .type "tuple", data := .seq #[.str x2 tx2, .str y2 ty2, .int p2 tp2] }) :: (a1, { cls := .type "tuple", data := .seq #[.str x1 tx1, .str y1 ty1, .int p1 tp1] }) :: (Da, listOf ws.toArray 0) :: c1 :: c2 :: c3 :: news))
    (ok1 : (PT.mk a1 x1 tx1 y1 ty1 p1 tp1).ok) (ok2 : (PT.mk a2 x2 tx2 y2 ty2 p2 tp2).ok)
    (lT : ∀ p ∈ (Pa, listOf #[.ref a1, .ref a2] 0) :: (a2, PT.obj ⟨a2, x2, tx2, y2, ty2, p2, tp2⟩) :: (a1, PT.obj ⟨a1, x1, tx1, y1, ty1, p1, tp1⟩) :: (Da, listOf ws.toArray 0) :: news, p.1 ≠ T)
    (lP : ∀ p ∈ (a2, PT.obj ⟨a2, x2, tx2, y2, ty2, p2, tp2⟩) :: (a1, PT.obj ⟨a1, x1, tx1, y1, ty1, p1, tp1⟩) :: (Da, listOf ws.toArray 0) :: news, p.1 ≠ Pa)
    (turn : ∀ (i : Nat) (c : Int) (t : Tok) (ps : List PT) (n : Nat) (u : Str → Option Value) (h : Heap) (tk : Nat) (o : Obj) (I : Addr), 0 ≤ c → c ≤ 16 → i < 3 → 2 ≤ ps.length → ps.length ≤ 2 + i → (∀ q ∈ ps, q.ok) → (∀ p ∈ pl ps ++ news, p.1 ≠ Pa) → (∀ p ∈ pl ps ++ news, p.1 ≠ I) → (∀ p ∈ pl ps ++ news, p.1 ≠ T) →
      ((@Ne Nat T I) ∧ (@Ne Nat Pa I) ∧ (@Ne Nat Da I) ∧ (@Ne Nat Pa T) ∧ (@Ne Nat Da T) ∧ (@Ne Nat Da Pa)) → o.cls = .type "tuple_iterator" →
      Fr h₀ env.locals h (fun z => if [Str.ofString "at", Str.ofString "first", Str.ofString "text", Str.ofString "number"].contains z then u z else m₀ z) →
      News h₀ env.locals h ((I, o) :: (T, { cls := .type "tuple", data := .seq #[.int 0 t0, .int 8 t8, .int 16 t16] }) :: (Pa, listOf (pvals ps).toArray n) :: (Da, listOf ws.toArray 0) :: (pl ps ++ news)) →
      wpAny (model prog w) A (assign target env (.int c t)) (fun _ s₂ => wpAny (model prog w) A (execs body env) (UnrPostW h₀ env.locals { s with heap := h, toks := tk } [(I, o)] (fun m' n' => SubL [(T, { cls := .type "tuple", data := .seq #[.int 0 t0, .int 8 t8, .int 16 t16] })] n' ∧ PLed T Pa Da I { cls := .type "tuple", data := .seq #[.int 0 t0, .int 8 t8, .int 16 t16] } ws news m₀ (i + 1) m' n') Q) E s₂) E { s with heap := h, toks := tk })
    (done : ∀ (ps : List PT) (n : Nat) (u : Str → Option Value) (h : Heap) (tk : Nat), 2 ≤ ps.length → ps.length ≤ 5 → (∀ q ∈ ps, q.ok) → Fr h₀ env.locals h (fun z => if [Str.ofString "at", Str.ofString "first", Str.ofString "text", Str.ofString "number"].contains z then u z else m₀ z) →
      News h₀ env.locals h ((Pa, listOf (pvals ps).toArray n) :: (pl ps ++ news)) → Q .next { s with heap := h, toks := tk }) :
    wpAny (model prog w) A (pyIter (.ref T)) (fun it s₂ => TurnsAt prog w A h₀ env target body Q E it s₂) E s := by
  have N1 : News h₀ env.locals s.heap ((T, { cls := .type "tuple", data := .seq #[.int 0 t0, .int 8 t8, .int 16 t16] }) :: (Pa, listOf (pvals [PT.mk a1 x1 tx1 y1 ty1 p1 tp1, PT.mk a2 x2 tx2 y2 ty2 p2 tp2]).toArray 0) :: (Da, listOf ws.toArray 0) :: (pl [PT.mk a1 x1 tx1 y1 ty1 p1 tp1, PT.mk a2 x2 tx2 y2 ty2 p2 tp2] ++ news)) := by
    intro p hp
    simp only [pl, List.map_cons, List.map_nil, List.cons_append, List.nil_append, List.mem_cons] at hp
    rcases hp with rfl | rfl | rfl | rfl | rfl | hp
    · exact N _ (by simp)
    · exact N _ (by simp [pvals])
    · exact N _ (by simp)
    · exact N _ (by simp [PT.obj])
    · exact N _ (by simp [PT.obj])
    · exact N _ (by simp [hp])
  refine iter_tupTurns hh F N1 (lo := { cls := .type "tuple", data := .seq #[.int 0 t0, .int 8 t8, .int 16 t16] }) (vs := [.int 0 t0, .int 8 t8, .int 16 t16]) (n := 0) (by simp) rfl rfl (fun I hI => ?_)
  have iN : ∀ p ∈ (T, ({ cls := .type "tuple", data := .seq #[.int 0 t0, .int 8 t8, .int 16 t16] } : Obj)) :: (Pa, listOf (pvals [PT.mk a1 x1 tx1 y1 ty1 p1 tp1, PT.mk a2 x2 tx2 y2 ty2 p2 tp2]).toArray 0) :: (Da, listOf ws.toArray 0) :: (pl [PT.mk a1 x1 tx1 y1 ty1 p1 tp1, PT.mk a2 x2 tx2 y2 ty2 p2 tp2] ++ news), @Ne Nat p.1 I := fun p hp => Nat.ne_of_lt (hI p hp)
  refine items_inv [.int 0 t0, .int 8 t8, .int 16 t16] (PLed T Pa Da I { cls := .type "tuple", data := .seq #[.int 0 t0, .int 8 t8, .int 16 t16] } ws news m₀) ?_ ?_ ?_
  · refine ⟨[PT.mk a1 x1 tx1 y1 ty1 p1 tp1, PT.mk a2 x2 tx2 y2 ty2 p2 tp2], 0, m₀, rfl, by funext z; split <;> rfl, by simp, by simp, ?_, ?_, ?_, ?_⟩
    · intro q hq
      simp only [List.mem_cons, List.not_mem_nil, or_false] at hq
      rcases hq with rfl | rfl
      · exact ok1
      · exact ok2
    · intro p hp
      refine lP p ?_
      simp only [pl, List.map_cons, List.map_nil, List.cons_append, List.nil_append, List.mem_cons] at hp ⊢
      grind
    · exact fun p hp => iN p (by simp [hp])
    · intro p hp
      refine lT p ?_
      simp only [pl, List.map_cons, List.map_nil, List.cons_append, List.nil_append, List.mem_cons] at hp ⊢
      grind
  · rintro i v m news' h tk o hv ⟨ps, n, u, rfl, rfl, k1, k2, k3, k4, k5, k6⟩ F' ho N'
    have hi : i < 3 := by
      have := (List.getElem?_eq_some_iff.mp hv).1
      simpa using this
    have hc : ∃ c t, v = .int c t ∧ 0 ≤ c ∧ c ≤ 16 := by
      have : i = 0 ∨ i = 1 ∨ i = 2 := by omega
      rcases this with rfl | rfl | rfl <;> (simp at hv; subst hv; exact ⟨_, _, rfl, by decide, by decide⟩)
    obtain ⟨c, t, rfl, c0, c16⟩ := hc
    exact turn i c t ps n u h tk o I c0 c16 hi k1 k2 k3 k4 k5 k6 ⟨iN _ (.head _), iN _ (.tail _ (.head _)), iN _ (.tail _ (.tail _ (.head _))), lT _ (.head _), lT _ (.tail _ (.tail _ (.tail _ (.head _)))), lP _ (.tail _ (.tail _ (.head _)))⟩ ho F' N'
  · rintro m news' h tk ⟨ps, n, u, rfl, rfl, k1, k2, k3, k4, k5, k6⟩ F' N'
    exact done ps n u h tk k1 k2 k3 F' fun p hp => N' p (by simp only [List.mem_cons] at hp ⊢; grind)
end
end Mine
namespace Mine
theorem lt7 {T a b c d e f g : Addr} {oa ob oc od : Obj} {news : List (Addr × Obj)} (h : a < T ∧ b < T ∧ c < T ∧ d < T ∧ e < T ∧ f < T ∧ g < T ∧ AllLt T news) : ∀ p ∈ (a, oa) :: (b, ob) :: (c, oc) :: (d, od) :: news, p.1 ≠ T := by
  intro p hp
  obtain ⟨h1, h2, h3, h4, _, _, _, h8⟩ := h
  simp only [List.mem_cons] at hp
  rcases hp with rfl | rfl | rfl | rfl | hp
  · exact Nat.ne_of_lt h1
  · exact Nat.ne_of_lt h2
  · exact Nat.ne_of_lt h3
  · exact Nat.ne_of_lt h4
  · exact Nat.ne_of_lt (kst_ltOf h8 p hp)
theorem lt6 {T b c d e f g : Addr} {ob oc od : Obj} {news : List (Addr × Obj)} (h : b < T ∧ c < T ∧ d < T ∧ e < T ∧ f < T ∧ g < T ∧ AllLt T news) : ∀ p ∈ (b, ob) :: (c, oc) :: (d, od) :: news, p.1 ≠ T := by
  intro p hp
  obtain ⟨h2, h3, h4, _, _, _, h8⟩ := h
  simp only [List.mem_cons] at hp
  rcases hp with rfl | rfl | rfl | hp
  · exact Nat.ne_of_lt h2
  · exact Nat.ne_of_lt h3
  · exact Nat.ne_of_lt h4
  · exact Nat.ne_of_lt (kst_ltOf h8 p hp)
def TextPost (h₀ : Heap) (L : Addr) (m : Str → Option Value) (led : List (Addr × Obj)) (s : Shared) (f : Flow) (s' : Shared) : Prop :=
  f = .next ∧ ∃ h tk r t u1, s' = { s with heap := h, toks := tk } ∧ r.length ≤ 11 ∧ Fr h₀ L h (fun z => if z = Str.ofString "text" then some (.str r t) else if z = Str.ofString "number" then u1 else m z) ∧ News h₀ L h led
theorem textPost_then {h₀ h : Heap} {L : Addr} {m : Str → Option Value} {led : List (Addr × Obj)} {s : Shared} {tk : Nat} {r : Str} {t : Tok} (hr : r.length ≤ 11) (F : Fr h₀ L h (fun z => if z = Str.ofString "text" then some (.str r t) else m z)) (N : News h₀ L h led) : TextPost h₀ L m led s .next { s with heap := h, toks := tk } := by
  refine ⟨rfl, h, tk, r, t, m (Str.ofString "number"), rfl, hr, ?_, N⟩
  have e : (fun z => if z = Str.ofString "text" then some (Value.str r t) else if z = Str.ofString "number" then m (Str.ofString "number") else m z) = fun z => if z = Str.ofString "text" then some (.str r t) else m z := by
    funext z
    split
    · rfl
    · split
      · rename_i e; rw [e]
      · rfl
  rw [e]; exact F
end Mine
namespace Mine
theorem ptok1 {a : Addr} {tx ty tp : Tok} {z : Int} : PT.ok ⟨a, Str.ofString "ca", tx, Str.ofString "abc", ty, z.fmod 3, tp⟩ :=
  ⟨(by show 1 ≤ (Str.ofString "ca").length; decide), (by show (Str.ofString "ca").length ≤ 7; decide), (by show 1 ≤ (Str.ofString "abc").length; decide), (by show (Str.ofString "abc").length ≤ 7; decide), (fm_bnd _ (by decide)).1, Int.le_of_lt (fm_bnd _ (by decide)).2⟩
theorem ptok2 {a : Addr} {tx ty tp : Tok} {z : Int} : PT.ok ⟨a, Str.ofString "abcab", tx, Str.ofString "bacba", ty, z.fmod 3, tp⟩ :=
  ⟨(by show 1 ≤ (Str.ofString "abcab").length; decide), (by show (Str.ofString "abcab").length ≤ 7; decide), (by show 1 ≤ (Str.ofString "bacba").length; decide), (by show (Str.ofString "bacba").length ≤ 7; decide), (fm_bnd _ (by decide)).1, Int.le_of_lt (fm_bnd _ (by decide)).2⟩
end Mine
namespace Mine
theorem room_up {d : Nat} (h : d + 20 < recursionLimit) : d + 1 + 10 < recursionLimit := by omega
theorem unit_up {u : Nat} (h : u + 200 < cLine) : u + 3 + 100 < cLine := by omega
theorem tx_lo (z : Int) : 0 ≤ 1 + z.fmod 7 := by have := (fm_bnd z (n := 7) (by decide)).1; omega
theorem tx_hi (z : Int) : 1 + z.fmod 7 ≤ 7 := by have := (fm_bnd z (n := 7) (by decide)).2; omega
end Mine
namespace Mine
theorem text_join {prog : Program} {w : World} {A : Around} {t : PySem.Sem Flow} {Q : Flow → Shared → Prop} {E : Value → Shared → Prop} {s : Shared} {h₀ : Heap} {L : Addr} {m : Str → Option Value} {led : List (Addr × Obj)}
    (F : Fr h₀ L s.heap m) (N : News h₀ L s.heap led) (h1 : wpAny (model prog w) A t (TextPost h₀ L m led s) E s)
    (h2 : ∀ (h : Heap) (tk : Nat) (r : Str) (t : Tok) (u1 : Option Value), r.length ≤ 11 → Fr h₀ L h (fun z => if z = Str.ofString "text" then some (.str r t) else if z = Str.ofString "number" then u1 else m z) → News h₀ L h led → Q .next { s with heap := h, toks := tk }) :
    wpAny (model prog w) A t Q E s := by
  refine wpAny_mono (Q := TextPost h₀ L m led s) h1 ?_ (fun _ _ e => e)
  rintro f s' ⟨rfl, h, tk, r, t, u1, rfl, hr, F, N⟩
  exact h2 h tk r t u1 hr F N
end Mine
namespace Mine
theorem le_of_text {z : Int} {n : Nat} (h : n = (1 + z.fmod 7).toNat) : n ≤ 11 := by
  have := tx_hi z; omega
theorem sp_start {z : Int} {n : Nat} (h : n = (1 + z.fmod 7).toNat) : n ≤ 7 + ([] : List Int).length := by
  have := tx_hi z; simp; omega
theorem take_le4 {c : Int} {n : Nat} {xs : List Int} (h0 : 0 ≤ c) : (List.take (min (c + 7).toNat n - (c + 3).toNat) xs).length ≤ 4 := by
  rw [List.length_take]; omega
end Mine
namespace Mine
section
variable {prog : Program} {w : World} {A : Around} {E : Value → Shared → Prop} {s : Shared} {h₀ : Heap} {L : Addr}
theorem pairs_append {m : Str → Option Value} {D I T P : Addr} {oD oI oT : Obj} {vs : List Value} {n : Nat} {v : Value} {rest : List (Addr × Obj)} {Q : Value → Shared → Prop}
    (F : Fr h₀ L s.heap m) (N : News h₀ L s.heap ((D, oD) :: (I, oI) :: (T, oT) :: (P, listOf vs.toArray n) :: rest)) (hD : P < D) (hI : @Ne Nat P I) (hT : @Ne Nat P T) (hr : ∀ p ∈ rest, p.1 ≠ P) (hsz : vs.length ≤ 10)
    (h : ∀ h', Fr h₀ L h' m → News h₀ L h' ((D, oD) :: (I, oI) :: (T, oT) :: (P, listOf (vs ++ [v]).toArray (n + 1)) :: rest) → Q .none { s with heap := h' }) :
    wpAny (model prog w) A (call (.builtin "list.append") [.ref P, v]) Q E s := by
  have N1 : News h₀ L s.heap ((P, listOf vs.toArray n) :: (D, oD) :: (I, oI) :: (T, oT) :: rest) := fun p hp => N p (by simp only [List.mem_cons] at hp ⊢; grind)
  refine append_at (its := vs.toArray) (n := n) (N1.get (.head _)) (fun h' hs ho' => ?_) (Nat.le_trans (by simpa using hsz) (by rw [sizeLine_eq]; decide))
  have N2 := N1.setHead (fun p hp => by
    simp only [List.mem_cons] at hp
    rcases hp with rfl | rfl | rfl | hp
    · exact Nat.ne_of_gt hD
    · exact fun e => hI e.symm
    · exact fun e => hT e.symm
    · exact hr p hp) hs ho'
  refine h h' (F.change hs (N1 _ (.head _)).2.1 (N1 _ (.head _)).2.2) fun p hp => N2 p ?_
  have e : (listOf (vs ++ [v]).toArray (n + 1) : Obj) = { cls := .type "list", data := .seq (vs.toArray.push v) (n + 1) } := by
    show listOf _ _ = listOf (vs.toArray.push v) (n + 1)
    congr 1
    simp
  rw [e] at hp
  simp only [List.mem_cons] at hp ⊢
  grind
theorem c_no {z : Str} (h1 : z ≠ Str.ofString "at") (h2 : z ≠ Str.ofString "first") (h3 : z ≠ Str.ofString "text") (h4 : z ≠ Str.ofString "number") : ¬ ([Str.ofString "at", Str.ofString "first", Str.ofString "text", Str.ofString "number"].contains z = true) := by
  simp only [List.contains_cons, List.contains_nil, Bool.or_false, Bool.or_eq_true, beq_iff_eq]
  rintro (h | h | h | h)
  · exact h1 h
  · exact h2 h
  · exact h3 h
  · exact h4 h
theorem c_frame {m' m₀ : Str → Option Value} (hm : ∀ z, z ≠ Str.ofString "at" → z ≠ Str.ofString "first" → z ≠ Str.ofString "text" → z ≠ Str.ofString "number" → m' z = m₀ z) :
    m' = (fun z => if [Str.ofString "at", Str.ofString "first", Str.ofString "text", Str.ofString "number"].contains z then m' z else m₀ z) := by
  funext z
  by_cases hc : [Str.ofString "at", Str.ofString "first", Str.ofString "text", Str.ofString "number"].contains z = true
  · rw [if_pos hc]
  · rw [if_neg hc]
    simp only [List.contains_cons, List.contains_nil, Bool.or_false, Bool.or_eq_true, beq_iff_eq, not_or] at hc
    exact hm z hc.1 hc.2.1 hc.2.2.1 hc.2.2.2
theorem turn_skip {h' : Heap} {m' m₀ : Str → Option Value} {I T P Da : Addr} {oI oT : Obj} {ws : List Value} {ps : List PT} {n tk i : Nat} {news : List (Addr × Obj)} {s₁ s₂ : Shared}
    (F : Fr h₀ L h' m') (N : News h₀ L h' ((I, oI) :: (T, oT) :: (P, listOf (pvals ps).toArray n) :: (Da, listOf ws.toArray 0) :: (pl ps ++ news)))
    (hm : ∀ z, z ≠ Str.ofString "at" → z ≠ Str.ofString "first" → z ≠ Str.ofString "text" → z ≠ Str.ofString "number" → m' z = m₀ z)
    (k1 : 2 ≤ ps.length) (k2 : ps.length ≤ 2 + (i + 1)) (k3 : ∀ q ∈ ps, q.ok) (k4 : ∀ p ∈ pl ps ++ news, p.1 ≠ P) (k5 : ∀ p ∈ pl ps ++ news, p.1 ≠ I) (k6 : ∀ p ∈ pl ps ++ news, p.1 ≠ T)
    (e1 : @Ne Nat T I) (e2 : @Ne Nat P I) (e3 : @Ne Nat Da I) (hs : s₂ = { s₁ with heap := h', toks := tk }) :
    UnrEndW h₀ L s₁ [(I, oI)] (fun m' n' => SubL [(T, oT)] n' ∧ PLed T P Da I oT ws news m₀ (i + 1) m' n') s₂ := by
  refine ⟨h', tk, m', (T, oT) :: (P, listOf (pvals ps).toArray n) :: (Da, listOf ws.toArray 0) :: (pl ps ++ news), hs, F, N, ?_, ⟨?_, trivial⟩, ps, n, m', rfl, c_frame hm, k1, k2, k3, k4, k5, k6⟩
  · intro p hp q hq
    obtain rfl := List.mem_singleton.mp hq
    simp only [List.mem_cons] at hp
    rcases hp with rfl | rfl | rfl | hp
    · exact e1
    · exact e2
    · exact e3
    · exact k5 p hp
  · exact .head _
theorem turn_app {h' : Heap} {m' m₀ : Str → Option Value} {D I T P Da : Addr} {oI oT : Obj} {x y : Str} {tx ty tp : Tok} {pz : Int} {ws : List Value} {ps : List PT} {n tk i : Nat} {news : List (Addr × Obj)} {s₁ s₂ : Shared}
    (F : Fr h₀ L h' m') (N : News h₀ L h' ((D, { cls := .type "tuple", data := .seq #[.str x tx, .str y ty, .int pz tp] }) :: (I, oI) :: (T, oT) :: (P, listOf (pvals ps ++ [Value.ref D]).toArray (n + 1)) :: (Da, listOf ws.toArray 0) :: (pl ps ++ news)))
    (hm : ∀ z, z ≠ Str.ofString "at" → z ≠ Str.ofString "first" → z ≠ Str.ofString "text" → z ≠ Str.ofString "number" → m' z = m₀ z)
    (hq : (PT.mk D x tx y ty pz tp).ok)
    (k1 : 2 ≤ ps.length) (k2 : ps.length ≤ 2 + i) (k3 : ∀ q ∈ ps, q.ok) (k4 : ∀ p ∈ pl ps ++ news, p.1 ≠ P) (k5 : ∀ p ∈ pl ps ++ news, p.1 ≠ I) (k6 : ∀ p ∈ pl ps ++ news, p.1 ≠ T)
    (e1 : @Ne Nat T I) (e2 : @Ne Nat P I) (e3 : @Ne Nat Da I) (l1 : I < D ∧ T < D ∧ P < D ∧ Da < D ∧ AllLt D (pl ps ++ news)) (hs : s₂ = { s₁ with heap := h', toks := tk }) :
    UnrEndW h₀ L s₁ [(I, oI)] (fun m' n' => SubL [(T, oT)] n' ∧ PLed T P Da I oT ws news m₀ (i + 1) m' n') s₂ := by
  obtain ⟨l1, l2, l3, l4, l5⟩ := l1
  have hin : ∀ p ∈ pl (ps ++ [PT.mk D x tx y ty pz tp]) ++ news, p ∈ pl ps ++ news ∨ p = (D, { cls := .type "tuple", data := .seq #[.str x tx, .str y ty, .int pz tp] }) := by
    intro p hp
    simp only [pl, List.map_append, List.map_cons, List.map_nil, List.mem_append, List.mem_cons, List.not_mem_nil, or_false] at hp ⊢
    rcases hp with (hp | hp) | hp
    · exact Or.inl (Or.inl hp)
    · exact Or.inr hp
    · exact Or.inl (Or.inr hp)
  have hall : ∀ {B : Addr}, (∀ p ∈ pl ps ++ news, p.1 ≠ B) → B < D → ∀ p ∈ pl (ps ++ [PT.mk D x tx y ty pz tp]) ++ news, p.1 ≠ B := by
    intro B h1 h2 p hp
    rcases hin p hp with h | rfl
    · exact h1 p h
    · exact Nat.ne_of_gt h2
  have hpv : pvals (ps ++ [PT.mk D x tx y ty pz tp]) = pvals ps ++ [Value.ref D] := by simp [pvals]
  refine turn_skip (ps := ps ++ [PT.mk D x tx y ty pz tp]) (n := n + 1) (i := i) F ?_ hm (by simp; omega) (by simp; omega) ?_ (hall k4 l3) (hall k5 l1) (hall k6 l2) e1 e2 e3 hs
  · intro p hp
    rw [hpv] at hp
    simp only [List.mem_cons] at hp
    rcases hp with rfl | rfl | rfl | rfl | hp
    · exact N _ (by simp)
    · exact N _ (by simp)
    · exact N _ (by simp)
    · exact N _ (by simp)
    · rcases hin p hp with h | rfl
      · exact N _ (by simp only [List.mem_cons]; simp [h])
      · exact N _ (by simp)
  · intro q hq'
    rcases List.mem_append.mp hq' with h | h
    · exact k3 q h
    · obtain rfl := List.mem_singleton.mp h
      exact hq
theorem textPost_else {m : Str → Option Value} {led led' : List (Addr × Obj)} {h : Heap} {s s' : Shared} {tk : Nat} {r r0 : Str} {t t0 : Tok} {u u' : Str → Option Value} {k : Nat}
    (F : Fr h₀ L h (fun y => if y = Str.ofString "number" then u y else if y = Str.ofString "text" then some (.str r t) else if ([] : List Str).contains y = true then u' y else if y = Str.ofString "text" then some (.str r0 t0) else m y))
    (N : News h₀ L h led') (hsub : ∀ p ∈ led, p ∈ led') (hr : r.length ≤ 7 + k) (hk : k ≤ 4) (hs : s' = { s with heap := h, toks := tk }) : TextPost h₀ L m led s .next s' := by
  refine ⟨rfl, h, tk, r, t, u (Str.ofString "number"), hs, by omega, ?_, fun p hp => N p (hsub p hp)⟩
  refine cast (congrArg (Fr h₀ L h) ?_) F
  funext z
  by_cases hn : z = Str.ofString "number"
  · subst hn
    rw [if_pos rfl, if_neg (by decide), if_pos rfl]
  · by_cases ht : z = Str.ofString "text"
    · rw [if_neg hn, if_pos ht, if_pos ht]
    · rw [if_neg hn, if_neg ht, if_neg ht, if_neg hn, if_neg (by simp), if_neg ht]
end
end Mine
namespace Mine
theorem pt_new {D : Addr} {r x : Str} {tx ty tp : Tok} {z q : Int} (h : r.length = (1 + z.fmod 7).toNat) (hx : (x.length : Int) ≠ 0) : PT.ok ⟨D, r, tx, Txt.slice x none (some 7), ty, q.fmod 4, tp⟩ := by
  have e : (Txt.slice x none (some 7)).length = min 7 x.length := slice_to_min (j := 7) (by decide)
  have h1 := tx_lo z
  have h2 := tx_hi z
  have h3 := (fm_bnd z (n := 7) (by decide)).1
  have h4 := fm_bnd q (n := 4) (by decide)
  refine ⟨?_, ?_, ?_, ?_, h4.1, ?_⟩
  · show 1 ≤ r.length; omega
  · show r.length ≤ 7; omega
  · show 1 ≤ (Txt.slice x none (some 7)).length; omega
  · show (Txt.slice x none (some 7)).length ≤ 7; omega
  · show q.fmod 4 ≤ 3; omega
theorem pv_len {ps : List PT} {i : Nat} (h : ps.length ≤ 2 + i) (hi : i < 3) : (pvals ps).length ≤ 10 := by
  unfold pvals; rw [List.length_map]; omega
theorem rest_ne {Da P : Addr} {oD : Obj} {l : List (Addr × Obj)} (h : @Ne Nat Da P) (h2 : ∀ p ∈ l, p.1 ≠ P) : ∀ p ∈ (Da, oD) :: l, p.1 ≠ P := by
  intro p hp
  rcases List.mem_cons.mp hp with rfl | hp
  · exact h
  · exact h2 p hp
theorem app_lt {I T P Da D : Addr} {l : List (Addr × Obj)} (h : I < D ∧ T < D ∧ P < D ∧ Da < D ∧ AllLt D l) : P < D := h.2.2.1
end Mine
end TPairsP

section TPairsC
open PySem PySem.W PyProof.Rows
namespace Mine
local macro_rules | `(tactic| walk_at "pyIter ref") => `(tactic| ((rename MarkA => mA'); refine Hold.out ?_))
local macro_rules | `(tactic| walk_at "eval List") => `(tactic| ((rename MarkA => mA'); refine Hold.out ?_))
local macro_rules | `(tactic| walk_at "exec If") => `(tactic| (refine Hold.out ?_))
local macro_rules | `(tactic| walk_at "call builtin:list.append") => `(tactic| (refine Hold.out ?_))
local macro_rules | `(tactic| walk_at "UnrEndW") => `(tactic| (refine Hold.out ?_))
local macro_rules | `(tactic| walk_at "subscriptTail Name Slice ref ref") => `(tactic| (k_here; (with_reducible show wpAny _ _ (subscriptTail _ (PySem.Expr.Slice _ _ none _) (Value.ref _) (Value.ref _)) _ _ _); k_dflt (refine' kmk_slice_ints (s := Shared.mk _ _ _ _ _) ?zF ?zN ?zl ?zp ?zq ?zi ?zm ?zc ?_ ?zs ?zt ?zz; (case zF => k_asm); (case zN => k_asm); (case zl => kmk_list); (case zp => kmk_part); (case zq => kmk_part); (case zi => with_reducible assumption); (case zm => first | with_reducible exact kmk_from (by with_reducible assumption) (by omega) | with_reducible exact kmk_upto (by with_reducible assumption) (by omega) | with_reducible exact kmk_run (by with_reducible assumption) (by omega) (by omega)); (case zc => first | with_reducible exact List.length_drop .. | with_reducible exact (List.length_take ..).trans (congrArg _ (List.length_drop ..)) | with_reducible exact List.length_take ..); (case zs => with_unfolding_all rfl); (case zt => kmk_pure); (case zz => (refine kmk_sz (by with_reducible assumption) ?_; (simp only [sizeLine_eq, List.length_append, List.length_drop, List.length_take]); omega))); intro D' ws' h' F' N' l1 hI' hC' hL'; (try k_lt l1)))
local macro_rules | `(tactic| walk_at "call ref") => `(tactic| (k_here; (with_reducible show wpAny _ _ (call (Value.ref 136) _) _ _ _);  k_dflt (refine' rest _ _ _ _ _ _ _ _ _ _ _ _ _ _ _ _ _ _ _ _ _ _ ?k1 ?k2 ?k3 ?k4 ?k5 ?kK ?kd ?ku  ?_); (case k1 => k_asm); (case k2 => k_asm); (case k3 => k_asm); (case k4 => k_asm); (case k5 => k_asm); (case kK => first | exact rfl | assumption); (case kd => first | (refine room_up ?_; assumption) | ktr_room); (case ku => first | (refine unit_up ?_; assumption) | ktr_units);  intro R1 vs1 rs1 h1 tk1 hL1 hb1 hI1 F1 N1 l1; (try k_lt l1);  (try dsimp only); (try k_fold)))
local macro_rules | `(tactic| walk_at "call ref") => `(tactic| (k_here; (with_reducible show wpAny _ _ (call (Value.ref 141) _) _ _ _);  k_dflt (refine' text _ _ _ _ _ _ _ _ _ _ _ _ _ _ _ _ _ _ _ _ _ _ _ _ _ _ ?k1 ?k2 ?k3 ?k4 ?k5 ?kK ?kd ?ku ?q0 ?q1 ?q2 ?_); (case k1 => k_asm); (case k2 => k_asm); (case k3 => k_asm); (case k4 => k_asm); (case k5 => k_asm); (case kK => first | exact rfl | assumption); (case kd => first | (refine room_up ?_; assumption) | ktr_room); (case ku => first | (refine unit_up ?_; assumption) | ktr_units); (case q0 => (refine bits_ok ?_ _; assumption)); (case q1 => exact tx_lo _); (case q2 => exact tx_hi _); intro r1 t1 h1 tk1 hL1 F1 N1;  (try dsimp only); (try k_fold)))
local macro_rules | `(tactic| walk_at "call ref") => `(tactic| (k_here; (with_reducible show wpAny _ _ (call (Value.ref 148) _) _ _ _);  k_dflt (refine' spoil _ _ _ _ _ _ _ _ _ _ _ _ _ _ _ _ _ _ _ _ _ _ _ _ _ _ ?k1 ?k2 ?k3 ?k4 ?k5 ?kK ?kd ?ku ?q0 ?_); (case k1 => k_asm); (case k2 => k_asm); (case k3 => k_asm); (case k4 => k_asm); (case k5 => k_asm); (case kK => first | exact rfl | assumption); (case kd => first | (refine room_up ?_; assumption) | ktr_room); (case ku => first | (refine unit_up ?_; assumption) | ktr_units); (case q0 => exact sp_pre (by assumption) (by assumption) (take_le4 (by assumption))); intro r1 t1 h1 tk1 hR1 F1 N1;  (try dsimp only); (try k_fold)))
set_option maxRecDepth 100000 in
set_option maxHeartbeats 0 in
theorem pairs : ∀ (w : World) (mean : ExcName → Option Value) (mg mb : Str → Option Value)
   (dp un : Nat) (gd : Option (List Code)) (cn : Str) (cs : Scope) (a : Addr) (ccd : Value) (cl : List (Str × Addr)) (outer : List Env) (A₀ : Around) (base h₀ : Heap) (L : Addr) (m : Str → Option Value) (s : Shared) (Q E : Value → Shared → Prop)
   (news : List (Addr × Obj)) (l : Addr) (vs : List Value) (ns : List Int)
   (B : Below A₀ base outer h₀) (F : Fr h₀ L s.heap m) (X : (hd.heap_39 w.params).In h₀) (N : News h₀ L s.heap (news))
   (T : Top hd.view_39 (looseW hd.view_39 [Str.ofString "Levenshtein", Str.ofString "DamerauOsa"]) mean mg mb h₀)
   (hk : cs.kind = .function) (hdp : dp + 20 < recursionLimit) (hun : un + 200 < cLine)
   (hl : base.IsList l vs.toArray) (hI : IntsAre vs ns) (hn : ns.length ≤ 63) (hbit : ∀ z ∈ ns, Builtin.Int.intBits z ≤ 1048576)
   (hret : ∀ (P : Addr) (ps : List PT) (n : Nat) (h' : Heap) (tk' : Nat), 2 ≤ ps.length → ps.length ≤ 5 → (∀ q ∈ ps, q.ok) → Fr h₀ L h' m → News h₀ L h' ((P, listOf (pvals ps).toArray n) :: (pl ps ++ news)) → Q (.ref P) { s with heap := h', toks := tk' }),
   wpAny (model PySem.Challenge.rw_fp5024_01.row.prog w) (ktrTop dp un gd cn cs L a ccd cl outer) (call (.ref 160) [.ref l]) Q E s := by
  k_with_none
  w_top off
  k_fill
  intro w mean mg mb dp un gd cn cs a ccd cl outer A₀ base h₀ L m s Q E news l vs ns B F X N T hk hdp hun hl hI hn hbit hret

  refine wpAny_call ?_
  k_dflt cell_enter
  have mA : MarkA := MarkA.mk
  k_steps
  refine Hold.into ?_
  rename MarkA => mA
  clear mA
  rename List.length _ = 24 => hL1
  rename IntsAre _ (List.take _ _) => hD
  obtain ⟨ds, hds, hdl, hdb⟩ := draws24 hL1 (by assumption) hbit hD
  k_steps
  refine pairs_loop rfl (by k_asm) (by k_asm) ptok1 ptok2 (lt7 (by assumption)) (lt6 (by assumption)) ?turn ?done
  case turn =>
    intro i c t ps n u h tk o I c0 c16 hi k1 k2 k3 k4 k5 k6 hne ho F3 N3
    obtain ⟨e1, e2, e3, e4, e5, e6⟩ := hne
    k_steps
    refine Hold.into ?_
    refine text_join (by k_asm) (by k_asm) ?hTx ?hRest
    case hTx =>
      k_with "pyIter ref" => k_state (fun pre text => text.length ≤ 7 + pre.length) "text"
      k_with "state" => (first
        | exact sp_start (by assumption)
        | exact sp_step (by assumption) (by assumption) (by assumption)
        )
      refine wpAny_If ?_
      (try k_fold)
      k_steps
      · exact textPost_then (le_of_text (by assumption)) (by k_asm) (by k_asm)
      · exact textPost_else kFr kNews (fun p hp => .tail _ hp) kInv (take_le4 c0) rfl
    case hRest =>
      intro h9 tk9 r9 t9 u9 hr9 F9 N9
      (try dsimp only at F9)
      (try dsimp only)
      (try k_fold)
      k_steps
      refine Hold.into ?_
      refine wpAny_If ?_
      (try k_fold)
      k_steps
      · refine Hold.into ?_
        refine pairs_append (by k_asm) (by k_asm) (app_lt (by assumption)) e2 e4 (rest_ne e6 k4) (pv_len k2 hi) ?_
        intro h10 F10 N10
        (try k_fold)
        k_steps
        refine Hold.into ?_
        exact turn_app F10 N10 (by intro z h1 h2 h3 h4; simp only [if_neg h1, if_neg h2, if_neg h3, if_neg h4, if_neg (c_no h1 h2 h3 h4)]) (pt_new (by assumption) (by assumption)) k1 k2 k3 k4 k5 k6 e1 e2 e3 (by assumption) rfl
      · refine Hold.into ?_
        exact turn_skip F9 N9 (by intro z h1 h2 h3 h4; simp only [if_neg h1, if_neg h2, if_neg h3, if_neg h4, if_neg (c_no h1 h2 h3 h4)]) k1 (Nat.le_succ_of_le k2) k3 k4 k5 k6 e1 e2 e3 rfl
  case done =>
    intro ps n u h tk k1 k2 k3 F3 N3
    (try k_fold)
    k_steps
    exact hret _ ps n _ _ k1 k2 k3 (by assumption) (by first | assumption | (refine' cb_drop ?cbN ?cbS; (case cbN => assumption); (case cbS => kcj_all)))
end Mine
end TPairsC

section THeadB
open PySem PySem.W PyProof.Rows
namespace Mine
def LawEnd (h₀ : Heap) (L : Addr) (s : Shared) (f : Flow) (s' : Shared) : Prop := ∃ h tk m led, f = .ret (.bool true) ∧ s' = { s with heap := h, toks := tk } ∧ Fr h₀ L h m ∧ News h₀ L h led
set_option maxRecDepth 100000 in
set_option maxHeartbeats 0 in
def lawHead : { P : Prop // P → PySem.Challenge.rw_fp5024_01.Holds } := by
  k_with_none
  refine' ⟨_, fun hP => hd ?_⟩
  case refine'_2 =>
    w_strict (k_go0)
    rename Below _ _ _ _ => B0
    rename Fr _ _ _ _ => F0
    rename News _ _ _ _ => N0
    rename Frag.In _ _ => X0
    rename Top _ _ _ _ _ _ => T0
    rename Heap.IsList _ _ _ => L0
    rename IntsAre _ _ => I0
    rename PyData.layable0 (PyData.list _) = true => Y0
    rename ¬ _ < ((List.length _ : Nat) : Int) => C0
    replace C0 : _ ≤ 63 := Nat.le_of_not_lt (fun h => C0 (by exact_mod_cast h))
    rename_i w s0 s1 mg mb G1 Y1 fa o pm doc kV ho hg X1 V1 G2 B1 TE TW w9 w8 M1 w7 w6 hcd ns hs hl0 hr1 hl2 w4 w3 l vs w0 ra w1 r0 hr hc hD h1
    refine wpAny_mono (Q := LawEnd s1.heap s1.heap.objs.size s1) (E := fun _ _ => False) ?walk ?en (fun _ _ h => h.elim)
    case en =>
      clear F0 N0
      rintro f s' ⟨h, tk, m, led, rfl, rfl, F, N⟩
      dsimp only
      k_steps
    case walk =>
      clear hD hc hr r0 w1 ra hl2 hr1 hl0 hs hcd M1 TW TE B1 G2 V1 X1 ho Y1 G1
      have B1 : Below callerA s1.heap [] s1.heap := B0
      clear B0
      have K1 := hg
      clear hg
      dsimp only
      dsimp only at F0
      clear w0 w3 w4 w6 w8 w9 kV doc pm o
      revert C0 N0 F0 h1 I0 L0 vs l Y0 ns B1 T0 X0 K1 w7 fa mb mg s1 s0 w
      exact hP
end Mine
end THeadB

section TDtP
open PySem PySem.W PyProof.Rows
namespace Mine
theorem dt_congr {sw : Bool} {a b a' b' : Nat → Str} : ∀ n i j, i + j ≤ n → (∀ p, p < i → a p = a' p) → (∀ q, q < j → b q = b' q) → dt sw a b i j = dt sw a' b' i j := by
  intro n
  induction n with
  | zero =>
    intro i j h _ _
    obtain rfl : i = 0 := by omega
    rw [dt_0, dt_0]
  | succ n ih =>
    intro i j h ha hb
    cases i with
    | zero => rw [dt_0, dt_0]
    | succ i =>
      cases j with
      | zero => rw [dt_s0, dt_s0]
      | succ j =>
        have e1 := ih i (j + 1) (by omega) (fun p hp => ha p (by omega)) hb
        have e2 := ih (i + 1) j (by omega) ha (fun q hq => hb q (by omega))
        have e3 := ih i j (by omega) (fun p hp => ha p (by omega)) (fun q hq => hb q (by omega))
        have ea := ha i (by omega)
        have eb := hb j (by omega)
        have ew : w3 sw a b i j = w3 sw a' b' i j := by unfold w3; rw [e1, e2, e3, ea, eb]
        cases i with
        | zero => rw [dt_10, dt_10, ew]
        | succ i =>
          cases j with
          | zero => rw [dt_i1, dt_i1, ew]
          | succ j =>
            have e4 := ih i j (by omega) (fun p hp => ha p (by omega)) (fun q hq => hb q (by omega))
            rw [dt_ss, dt_ss, ew, e4, ea, eb, ha i (by omega), hb j (by omega)]
theorem dt_symm' {sw : Bool} {a b : Nat → Str} : ∀ n i j, i + j ≤ n → dt sw a b i j = dt sw b a j i := by
  intro n
  induction n with
  | zero =>
    intro i j h
    obtain rfl : i = 0 := by omega
    obtain rfl : j = 0 := by omega
    rw [dt_0, dt_0]
  | succ n ih =>
    intro i j h
    cases i with
    | zero => rw [dt_0, dt_i0]
    | succ i =>
      cases j with
      | zero => rw [dt_s0, dt_0]; omega
      | succ j =>
        have e1 := ih i (j + 1) (by omega)
        have e2 := ih (i + 1) j (by omega)
        have e3 := ih i j (by omega)
        have ew : w3 sw a b i j = w3 sw b a j i := by
          unfold w3
          rw [e1, e2, e3]
          have e5 : (if a i = b j then (0 : Int) else 1) = if b j = a i then 0 else 1 := by
            by_cases h : a i = b j
            · rw [if_pos h, if_pos h.symm]
            · rw [if_neg h, if_neg fun e => h e.symm]
          rw [e5]
          omega
        cases i with
        | zero => rw [dt_10, dt_i1, ew]
        | succ i =>
          cases j with
          | zero => rw [dt_i1, dt_10, ew]
          | succ j =>
            have e4 := ih i j (by omega)
            rw [dt_ss, dt_ss, ew, e4]
            have e6 : (sw = true ∧ a (i + 1) = b j ∧ a i = b (j + 1)) ↔ (sw = true ∧ b (j + 1) = a i ∧ b j = a (i + 1)) :=
              ⟨fun h => ⟨h.1, h.2.2.symm, h.2.1.symm⟩, fun h => ⟨h.1, h.2.2.symm, h.2.1.symm⟩⟩
            by_cases hc : sw = true ∧ a (i + 1) = b j ∧ a i = b (j + 1)
            · rw [if_pos hc, if_pos (e6.mp hc)]
            · rw [if_neg hc, if_neg fun h => hc (e6.mpr h)]
theorem dt_symm (sw : Bool) (a b : Nat → Str) (i j : Nat) : dt sw a b i j = dt sw b a j i := dt_symm' (i + j) i j (Nat.le_refl _)
theorem dt_bnd (sw : Bool) (a b : Nat → Str) : ∀ n i j, i + j ≤ n → 0 ≤ dt sw a b i j ∧ dt sw a b i j ≤ ((i + j : Nat) : Int) := by
  intro n
  induction n with
  | zero =>
    intro i j h
    obtain rfl : i = 0 := by omega
    rw [dt_0]; omega
  | succ n ih =>
    intro i j h
    cases i with
    | zero => rw [dt_0]; omega
    | succ i =>
      cases j with
      | zero => rw [dt_s0]; omega
      | succ j =>
        have e1 := ih i (j + 1) (by omega)
        have e2 := ih (i + 1) j (by omega)
        have e3 := ih i j (by omega)
        rcases dt_cases (sw := sw) (a := a) (b := b) i j with h | ⟨i', j', rfl, rfl, _, _, _, h⟩
        · rw [h]; unfold w3; split <;> omega
        · rw [h]
          have e4 := ih i' j' (by omega)
          omega
theorem sg_win {x y z : Str} {st i : Nat} (hs : st = x.length) (hi : i < y.length) : sg (x ++ y ++ z) st i = sg y 0 i := by
  obtain ⟨v, hy⟩ : ∃ v, y.cps[i]? = some v := ⟨_, Array.getElem?_eq_getElem (show i < y.cps.size from hi)⟩
  have e1 : sg y 0 i = ⟨#[v]⟩ := by
    unfold sg
    refine item_meets (by omega) ?_
    have e : (((0 : Nat) : Int) + (i : Int)).toNat = i := by omega
    rw [e]; exact hy
  rw [e1]
  unfold sg
  refine item_meets (by omega) ?_
  have e : ((st : Int) + (i : Int)).toNat = st + i := by omega
  rw [e, hs]
  show (x.cps ++ y.cps ++ z.cps)[x.cps.size + i]? = _
  have h1 : x.cps.size + i < (x.cps ++ y.cps).size := by
    have : i < y.cps.size := hi
    simp; omega
  rw [Array.getElem?_append_left h1, Array.getElem?_append_right (by omega)]
  simpa using hy
end Mine
end TDtP

section TMainP
open PySem PySem.W PyProof.Rows PySem.Spec PySem.Calls
namespace Mine
/-- what a turn of the law's loop leaves -/
def MPost (h₀ : Heap) (L : Addr) (m₀ : Str → Option Value) (led : List (Addr × Obj)) (c : Int) (s : Shared) (f : Flow) (s' : Shared) : Prop :=
  f = .next ∧ ∃ h tk t m, s' = { s with heap := h, toks := tk } ∧ Fr h₀ L h m ∧ News h₀ L h led ∧ m (Str.ofString "asked") = some (.int c t) ∧
    ∀ z, z ≠ Str.ofString "asked" → ¬ ([Str.ofString "one", Str.ofString "two", Str.ofString "place", Str.ofString "plain", Str.ofString "swapped", Str.ofString "near", Str.ofString "far", Str.ofString "string_a", Str.ofString "string_b", Str.ofString "told"].contains z = true) → m z = m₀ z
def MLed (led : List (Addr × Obj)) (m₀ : Str → Option Value) (i : Nat) (m : Str → Option Value) (nw : List (Addr × Obj)) : Prop :=
  nw = led ∧ ∃ (c : Int) (t : Tok) (u : Str → Option Value), c = 2 * (i : Int) ∧
    m = fun z => if z = Str.ofString "asked" then some (.int c t) else if [Str.ofString "one", Str.ofString "two", Str.ofString "place", Str.ofString "plain", Str.ofString "swapped", Str.ofString "near", Str.ofString "far", Str.ofString "string_a", Str.ofString "string_b", Str.ofString "told"].contains z then u z else m₀ z
section
variable {prog : Program} {w : World} {A : Around} {E : Value → Shared → Prop} {s : Shared} {env : Env} {h₀ : Heap} {target : Expr} {body : List Stmt} {Q : Flow → Shared → Prop} {m₀ : Str → Option Value}
theorem main_loop {P Da : Addr} {ws : List Value} {ps : List PT} {n : Nat} {t0 : Tok} {rest : List (Addr × Obj)}
    (hh : A.handled = none) (F : Fr h₀ env.locals s.heap m₀)
    (N : News h₀ env.locals s.heap ((P, listOf (pvals ps).toArray n) :: (pl ps ++ (Da, listOf ws.toArray 0) :: rest)))
    (k1 : 2 ≤ ps.length) (k2 : ps.length ≤ 5) (k3 : ∀ q ∈ ps, q.ok)
    (ha : m₀ (Str.ofString "asked") = some (.int 0 t0))
    (turn : ∀ (a : Addr) (x y : Str) (tx ty tp : Tok) (st : Nat) (c : Int) (t : Tok) (u : Str → Option Value) (h : Heap) (tk : Nat) (o : Obj) (I : Addr),
      1 ≤ x.length → x.length ≤ 7 → 1 ≤ y.length → y.length ≤ 7 → st ≤ 3 → 0 ≤ c → c ≤ 8 → o.cls = .type "list_iterator" →
      Fr h₀ env.locals h (fun z => if z = Str.ofString "asked" then some (.int c t) else if [Str.ofString "one", Str.ofString "two", Str.ofString "place", Str.ofString "plain", Str.ofString "swapped", Str.ofString "near", Str.ofString "far", Str.ofString "string_a", Str.ofString "string_b", Str.ofString "told"].contains z then u z else m₀ z) →
      News h₀ env.locals h ((a, { cls := .type "tuple", data := .seq #[.str x tx, .str y ty, .int (st : Int) tp] }) :: (I, o) :: (P, listOf (pvals ps).toArray n) :: (Da, listOf ws.toArray 0) :: pl ps) →
      wpAny (model prog w) A (assign target env (.ref a)) (fun _ s₂ => wpAny (model prog w) A (execs body env) (MPost h₀ env.locals m₀ ((I, o) :: (P, listOf (pvals ps).toArray n) :: (Da, listOf ws.toArray 0) :: pl ps) (c + 1 + 1) { s with heap := h, toks := tk }) E s₂) E { s with heap := h, toks := tk })
    (done : ∀ (c : Int) (t : Tok) (u : Str → Option Value) (h : Heap) (tk : Nat), 4 ≤ c →
      Fr h₀ env.locals h (fun z => if z = Str.ofString "asked" then some (.int c t) else if [Str.ofString "one", Str.ofString "two", Str.ofString "place", Str.ofString "plain", Str.ofString "swapped", Str.ofString "near", Str.ofString "far", Str.ofString "string_a", Str.ofString "string_b", Str.ofString "told"].contains z then u z else m₀ z) →
      News h₀ env.locals h ((P, listOf (pvals ps).toArray n) :: (Da, listOf ws.toArray 0) :: pl ps) → Q .next { s with heap := h, toks := tk }) :
    wpAny (model prog w) A (pyIter (.ref P)) (fun it s₂ => TurnsAt prog w A h₀ env target body Q E it s₂) E s := by
  have N1 : News h₀ env.locals s.heap ((P, listOf (pvals ps).toArray n) :: (Da, listOf ws.toArray 0) :: pl ps) := by
    intro p hp
    refine N p ?_
    simp only [List.mem_cons, List.mem_append] at hp ⊢
    rcases hp with h | h | h
    · exact Or.inl h
    · exact Or.inr (Or.inr (Or.inl h))
    · exact Or.inr (Or.inl h)
  refine iter_listTurns hh F N1 (lo := listOf (pvals ps).toArray n) (vs := pvals ps) (n := n) (.head _) rfl rfl (fun I hI => ?_)
  refine items_inv (pvals ps) (MLed ((P, listOf (pvals ps).toArray n) :: (Da, listOf ws.toArray 0) :: pl ps) m₀) ?_ ?_ ?_
  · refine ⟨rfl, 0, t0, m₀, rfl, ?_⟩
    funext z
    split
    · rename_i e; rw [e]; exact ha
    · split <;> rfl
  · rintro i v m nw h tk o hv ⟨rfl, c, t, u, rfl, rfl⟩ F' ho N'
    have hi : i < ps.length := by
      have := (List.getElem?_eq_some_iff.mp hv).1
      simpa [pvals] using this
    have hve : v = .ref (ps[i]).a := by
      simp [pvals, hi] at hv
      exact hv.symm
    subst hve
    have hq := k3 _ (List.getElem_mem hi)
    have hmem : ((ps[i]).a, (ps[i]).obj) ∈ pl ps := by
      unfold pl
      exact List.mem_map.mpr ⟨ps[i], List.getElem_mem hi, rfl⟩
    generalize ps[i] = q at hq hmem ⊢
    obtain ⟨a, x, tx, y, ty, p, tp⟩ := q
    obtain ⟨q1, q2, q3, q4, q5, q6⟩ := hq
    dsimp only at q1 q2 q3 q4 q5 q6 hmem
    obtain ⟨st, rfl⟩ := Int.eq_ofNat_of_zero_le q5
    have N2 : News h₀ env.locals h ((a, { cls := .type "tuple", data := .seq #[.str x tx, .str y ty, .int (st : Int) tp] }) :: (I, o) :: (P, listOf (pvals ps).toArray n) :: (Da, listOf ws.toArray 0) :: pl ps) := by
      intro p hp
      rcases List.mem_cons.mp hp with rfl | hp
      · exact N' _ (.tail _ (.tail _ (.tail _ hmem)))
      · exact N' p hp
    refine wpAny_mono (turn a x y tx ty tp st (2 * (i : Int)) t u h tk o I q1 q2 q3 q4 (by omega) (by omega) (by omega) ho F' N2) (fun _ s₂ z => wpAny_mono z ?_ fun _ _ e => e) fun _ _ e => e
    rintro f s' ⟨rfl, h', tk', t', m', rfl, F2, N3, e1, e2⟩
    refine ⟨h', tk', m', _, rfl, F2, N3, ?_, ⟨.head _, trivial⟩, rfl, 2 * (i : Int) + 1 + 1, t', m', by omega, ?_⟩
    · intro p hp q hq
      obtain rfl := List.mem_singleton.mp hq
      exact Nat.ne_of_lt (hI p hp)
    · funext z
      split
      · rename_i e; rw [e]; exact e1
      · rename_i hne
        split
        · rfl
        · rename_i hno
          exact e2 z hne hno
  · rintro m nw h tk ⟨rfl, c, t, u, rfl, rfl⟩ F' N'
    refine done _ t u h tk ?_ F' N'
    have : (pvals ps).length = ps.length := by simp [pvals]
    omega
end
end Mine
namespace Mine
theorem law_end {h₀ h : Heap} {L : Addr} {s : Shared} {c : Int} {tk : Nat} {m : Str → Option Value} {led : List (Addr × Obj)} (hc : 4 ≤ c) (F : Fr h₀ L h m) (N : News h₀ L h led) :
    LawEnd h₀ L s (.ret (.bool (decide (3 < c)))) { s with heap := h, toks := tk } := by
  have e : decide (3 < c) = true := decide_eq_true (by omega)
  rw [e]
  exact ⟨h, tk, m, led, rfl, rfl, F, N⟩
/-- what a turn of the inner loop leaves -/
def TPost (nm : List Str) (h₀ : Heap) (L : Addr) (m₀ : Str → Option Value) (led : List (Addr × Obj)) (c : Int) (s : Shared) (f : Flow) (s' : Shared) : Prop :=
  f = .next ∧ ∃ h tk t m, s' = { s with heap := h, toks := tk } ∧ Fr h₀ L h m ∧ News h₀ L h led ∧ m (Str.ofString "asked") = some (.int c t) ∧
    ∀ z, z ≠ Str.ofString "asked" → ¬ (nm.contains z = true) → m z = m₀ z
def TLed (nm : List Str) (led : List (Addr × Obj)) (m₀ : Str → Option Value) (c : Int) (i : Nat) (m : Str → Option Value) (nw : List (Addr × Obj)) : Prop :=
  nw = led ∧ ∃ (d : Int) (t : Tok) (u : Str → Option Value), d = c + (i : Int) ∧
    m = fun z => if z = Str.ofString "asked" then some (.int d t) else if nm.contains z then u z else m₀ z
section
variable {prog : Program} {w : World} {A : Around} {E : Value → Shared → Prop} {s : Shared} {env : Env} {h₀ : Heap} {target : Expr} {body : List Stmt} {Q : Flow → Shared → Prop} {m₀ : Str → Option Value}
theorem two_loop (nm : List Str) {x y : Str} {tx ty tx' ty' : Tok} {T Ta Tb : Addr} {c : Int} {t0 : Tok} {led : List (Addr × Obj)}
    (hh : A.handled = none) (F : Fr h₀ env.locals s.heap m₀)
    (N : News h₀ env.locals s.heap ((T, { cls := .type "tuple", data := .seq #[.ref Ta, .ref Tb] }) :: (Tb, { cls := .type "tuple", data := .seq #[.str y ty', .str x tx'] }) :: (Ta, { cls := .type "tuple", data := .seq #[.str x tx, .str y ty] }) :: led))
    (hx1 : 1 ≤ x.length) (hx7 : x.length ≤ 7) (hy1 : 1 ≤ y.length) (hy7 : y.length ≤ 7)
    (ha : m₀ (Str.ofString "asked") = some (.int c t0))
    (turn : ∀ (p q : Str) (tp tq : Tok) (Tc : Addr) (d : Int) (t : Tok) (u : Str → Option Value) (h : Heap) (tk : Nat) (o : Obj) (I : Addr),
      1 ≤ p.length → p.length ≤ 7 → 1 ≤ q.length → q.length ≤ 7 →
      (∀ sw, dt sw (sg p 0) (sg q 0) p.length q.length = dt sw (sg x 0) (sg y 0) x.length y.length) →
      c ≤ d → d ≤ c + 1 → o.cls = .type "tuple_iterator" →
      Fr h₀ env.locals h (fun z => if z = Str.ofString "asked" then some (.int d t) else if nm.contains z then u z else m₀ z) →
      News h₀ env.locals h ((Tc, { cls := .type "tuple", data := .seq #[.str p tp, .str q tq] }) :: (I, o) :: (T, { cls := .type "tuple", data := .seq #[.ref Ta, .ref Tb] }) :: (Tb, { cls := .type "tuple", data := .seq #[.str y ty', .str x tx'] }) :: (Ta, { cls := .type "tuple", data := .seq #[.str x tx, .str y ty] }) :: led) →
      wpAny (model prog w) A (assign target env (.ref Tc)) (fun _ s₂ => wpAny (model prog w) A (execs body env) (TPost nm h₀ env.locals m₀ ((I, o) :: (T, { cls := .type "tuple", data := .seq #[.ref Ta, .ref Tb] }) :: (Tb, { cls := .type "tuple", data := .seq #[.str y ty', .str x tx'] }) :: (Ta, { cls := .type "tuple", data := .seq #[.str x tx, .str y ty] }) :: led) (d + 1) { s with heap := h, toks := tk }) E s₂) E { s with heap := h, toks := tk })
    (done : ∀ (t : Tok) (u : Str → Option Value) (h : Heap) (tk : Nat),
      Fr h₀ env.locals h (fun z => if z = Str.ofString "asked" then some (.int (c + 1 + 1) t) else if nm.contains z then u z else m₀ z) →
      News h₀ env.locals h led → Q .next { s with heap := h, toks := tk }) :
    wpAny (model prog w) A (pyIter (.ref T)) (fun it s₂ => TurnsAt prog w A h₀ env target body Q E it s₂) E s := by
  refine iter_tupTurns hh F N (lo := { cls := .type "tuple", data := .seq #[.ref Ta, .ref Tb] }) (vs := [.ref Ta, .ref Tb]) (n := 0) (.head _) rfl rfl (fun I hI => ?_)
  refine items_inv [.ref Ta, .ref Tb] (TLed nm ((T, { cls := .type "tuple", data := .seq #[.ref Ta, .ref Tb] }) :: (Tb, { cls := .type "tuple", data := .seq #[.str y ty', .str x tx'] }) :: (Ta, { cls := .type "tuple", data := .seq #[.str x tx, .str y ty] }) :: led) m₀ c) ?_ ?_ ?_
  · refine ⟨rfl, c, t0, m₀, by simp, ?_⟩
    funext z
    split
    · rename_i e; rw [e]; exact ha
    · split <;> rfl
  · rintro i v m nw h tk o hv ⟨rfl, d, t, u, hd, rfl⟩ F' ho N'
    have hi : i < 2 := by
      have := (List.getElem?_eq_some_iff.mp hv).1
      simpa using this
    have key : ∃ (Tc : Addr) (p q : Str) (tp tq : Tok), v = .ref Tc ∧ 1 ≤ p.length ∧ p.length ≤ 7 ∧ 1 ≤ q.length ∧ q.length ≤ 7 ∧
        (∀ sw, dt sw (sg p 0) (sg q 0) p.length q.length = dt sw (sg x 0) (sg y 0) x.length y.length) ∧
        News h₀ env.locals h ((Tc, { cls := .type "tuple", data := .seq #[.str p tp, .str q tq] }) :: (I, o) :: (T, { cls := .type "tuple", data := .seq #[.ref Ta, .ref Tb] }) :: (Tb, { cls := .type "tuple", data := .seq #[.str y ty', .str x tx'] }) :: (Ta, { cls := .type "tuple", data := .seq #[.str x tx, .str y ty] }) :: led) := by
      have : i = 0 ∨ i = 1 := by omega
      rcases this with rfl | rfl
      · simp at hv
        refine ⟨Ta, x, y, tx, ty, hv.symm, hx1, hx7, hy1, hy7, fun _ => rfl, ?_⟩
        intro p hp
        rcases List.mem_cons.mp hp with rfl | hp
        · exact N' _ (.tail _ (.tail _ (.tail _ (.head _))))
        · exact N' p hp
      · simp at hv
        refine ⟨Tb, y, x, ty', tx', hv.symm, hy1, hy7, hx1, hx7, fun _ => dt_symm _ _ _ _ _, ?_⟩
        intro p hp
        rcases List.mem_cons.mp hp with rfl | hp
        · exact N' _ (.tail _ (.tail _ (.head _)))
        · exact N' p hp
    obtain ⟨Tc, p, q, tp, tq, rfl, g1, g2, g3, g4, g5, N2⟩ := key
    refine wpAny_mono (turn p q tp tq Tc d t u h tk o I g1 g2 g3 g4 g5 (by omega) (by omega) ho F' N2) (fun _ s₂ z => wpAny_mono z ?_ fun _ _ e => e) fun _ _ e => e
    rintro f s' ⟨rfl, h', tk', t', m', rfl, F2, N3, e1, e2⟩
    refine ⟨h', tk', m', _, rfl, F2, N3, ?_, ⟨.head _, trivial⟩, rfl, d + 1, t', m', by omega, ?_⟩
    · intro p hp q hq
      obtain rfl := List.mem_singleton.mp hq
      exact Nat.ne_of_lt (hI p hp)
    · funext z
      split
      · rename_i e; rw [e]; exact e1
      · rename_i hne
        split
        · rfl
        · rename_i hno
          exact e2 z hne hno
  · rintro m nw h tk ⟨rfl, d, t, u, hd, rfl⟩ F' N'
    have e : d = c + 1 + 1 := by
      simp at hd
      omega
    subst e
    exact done t u h tk F' fun p hp => N' p (.tail _ (.tail _ (.tail _ hp)))
end
end Mine
namespace Mine
theorem no5 {z a b c d e : Str} (h : ¬ ([a, b, c, d, e].contains z = true)) : z ≠ a ∧ z ≠ b ∧ z ≠ c ∧ z ≠ d ∧ z ≠ e := by
  simp only [List.contains_cons, List.contains_nil, Bool.or_false, Bool.or_eq_true, beq_iff_eq, not_or] at h
  exact h
theorem no10 {z a b c d e a' b' c' d' e' : Str} (h : ¬ ([a, b, c, d, e, a', b', c', d', e'].contains z = true)) : (z ≠ a ∧ z ≠ b ∧ z ≠ c ∧ z ≠ d ∧ z ≠ e) ∧ ¬ ([a', b', c', d', e'].contains z = true) := by
  simp only [List.contains_cons, List.contains_nil, Bool.or_false, Bool.or_eq_true, beq_iff_eq, not_or] at h ⊢
  exact ⟨⟨h.1, h.2.1, h.2.2.1, h.2.2.2.1, h.2.2.2.2.1⟩, h.2.2.2.2.2⟩
theorem mpost_of {h₀ h : Heap} {L : Addr} {m m₀ : Str → Option Value} {led led' : List (Addr × Obj)} {c : Int} {t : Tok} {s s' : Shared} {tk : Nat} (F : Fr h₀ L h m) (N : News h₀ L h led') (hsub : ∀ p ∈ led, p ∈ led')
    (ha : m (Str.ofString "asked") = some (.int c t))
    (hr : ∀ z, z ≠ Str.ofString "asked" → ¬ ([Str.ofString "one", Str.ofString "two", Str.ofString "place", Str.ofString "plain", Str.ofString "swapped", Str.ofString "near", Str.ofString "far", Str.ofString "string_a", Str.ofString "string_b", Str.ofString "told"].contains z = true) → m z = m₀ z)
    (hs : s' = { s with heap := h, toks := tk }) : MPost h₀ L m₀ led c s .next s' := ⟨rfl, h, tk, t, m, hs, F, fun p hp => N p (hsub p hp), ha, hr⟩
theorem tpost_of {nm : List Str} {h₀ h : Heap} {L : Addr} {m m₀ : Str → Option Value} {led led' : List (Addr × Obj)} {c : Int} {t : Tok} {s s' : Shared} {tk : Nat} (F : Fr h₀ L h m) (N : News h₀ L h led') (hsub : ∀ p ∈ led, p ∈ led')
    (ha : m (Str.ofString "asked") = some (.int c t))
    (hr : ∀ z, z ≠ Str.ofString "asked" → ¬ (nm.contains z = true) → m z = m₀ z)
    (hs : s' = { s with heap := h, toks := tk }) : TPost nm h₀ L m₀ led c s .next s' := ⟨rfl, h, tk, t, m, hs, F, fun p hp => N p (hsub p hp), ha, hr⟩
end Mine
end TMainP

section TCallV
open PySem PySem.W PyProof.Rows
namespace Mine
theorem osaV : ∀ (w : World) (mean : ExcName → Option Value) (mg mb : Str → Option Value)
   (dp un : Nat) (gd : Option (List Code)) (cn : Str) (cs : Scope) (a : Addr) (ccd : Value) (cl : List (Str × Addr)) (outer : List Env) (A₀ : Around) (base h₀ : Heap) (L : Addr) (m : Str → Option Value) (s : Shared) (Q E : Value → Shared → Prop)
   (news : List (Addr × Obj)) (x y : Str) (tx ty : Tok) (n1 n2 st : Nat) (t1 t2 t3 : Tok) (cc : Value) (p : Addr) (pv : List Value) (ps : List Int) (pn : Nat) (v : Int)
   (B : Below A₀ base outer h₀) (F : Fr h₀ L s.heap m) (X : (hd.heap_39 w.params).In h₀) (N : News h₀ L s.heap ((p, listOf pv.toArray pn) :: news))
   (T : Top hd.view_39 (looseW hd.view_39 [Str.ofString "Levenshtein", Str.ofString "DamerauOsa"]) mean mg mb h₀)
   (hk : cs.kind = .function) (hdp : dp + 10 < recursionLimit) (hun : un + 100 < cLine) (hI : IntsAre pv ps) (hpl : ps.length = n2) (hpo : ∀ q ∈ news, q.1 ≠ p)
   (h1 : 1 ≤ n1) (h1' : n1 ≤ 7) (h2 : 1 ≤ n2) (h2' : n2 ≤ 7) (hst : st ≤ 3) (hx : st + n1 ≤ x.length) (hy : st + n2 ≤ y.length) (hxs : x.length ≤ 20) (hys : y.length ≤ 20)
   (hv : dt true (sg x st) (sg y st) n1 n2 = v)
   (hret : ∀ (t : Tok) (h' : Heap) (tk' : Nat), Fr h₀ L h' m → News h₀ L h' news → Q (.int v t) { s with heap := h', toks := tk' }),
   wpAny (model PySem.Challenge.rw_fp5024_01.row.prog w) (ktrTop dp un gd cn cs L a ccd cl outer) (call (.ref 113) [.str x tx, .str y ty, .int n1 t1, .int n2 t2, .int st t3, cc, .ref p]) Q E s := by
  intro w mean mg mb dp un gd cn cs a ccd cl outer A₀ base h₀ L m s Q E news x y tx ty n1 n2 st t1 t2 t3 cc p pv ps pn v B F X N T hk hdp hun hI hpl hpo h1 h1' h2 h2' hst hx hy hxs hys hv hret
  subst hv
  exact osa w mean mg mb dp un gd cn cs a ccd cl outer A₀ base h₀ L m s Q E news x y tx ty n1 n2 st t1 t2 t3 cc p pv ps pn B F X N T hk hdp hun hI hpl hpo h1 h1' h2 h2' hst hx hy hxs hys hret
theorem levV : ∀ (w : World) (mean : ExcName → Option Value) (mg mb : Str → Option Value)
   (dp un : Nat) (gd : Option (List Code)) (cn : Str) (cs : Scope) (a : Addr) (ccd : Value) (cl : List (Str × Addr)) (outer : List Env) (A₀ : Around) (base h₀ : Heap) (L : Addr) (m : Str → Option Value) (s : Shared) (Q E : Value → Shared → Prop)
   (news : List (Addr × Obj)) (x y : Str) (tx ty : Tok) (n1 n2 st : Nat) (t1 t2 t3 : Tok) (cc : Value) (v : Int)
   (B : Below A₀ base outer h₀) (F : Fr h₀ L s.heap m) (X : (hd.heap_39 w.params).In h₀) (N : News h₀ L s.heap news)
   (T : Top hd.view_39 (looseW hd.view_39 [Str.ofString "Levenshtein", Str.ofString "DamerauOsa"]) mean mg mb h₀)
   (hk : cs.kind = .function) (hdp : dp + 10 < recursionLimit) (hun : un + 100 < cLine)
   (h1 : 1 ≤ n1) (h1' : n1 ≤ 7) (h2 : 1 ≤ n2) (h2' : n2 ≤ 7) (hst : st ≤ 3) (hx : st + n1 ≤ x.length) (hy : st + n2 ≤ y.length) (hxs : x.length ≤ 20) (hys : y.length ≤ 20)
   (hv : dt false (sg x st) (sg y st) n1 n2 = v)
   (hret : ∀ (t : Tok) (h' : Heap) (tk' : Nat), Fr h₀ L h' m → News h₀ L h' news → Q (.int v t) { s with heap := h', toks := tk' }),
   wpAny (model PySem.Challenge.rw_fp5024_01.row.prog w) (ktrTop dp un gd cn cs L a ccd cl outer) (call (.ref 73) [.str x tx, .str y ty, .int n1 t1, .int n2 t2, .int st t3, cc]) Q E s := by
  intro w mean mg mb dp un gd cn cs a ccd cl outer A₀ base h₀ L m s Q E news x y tx ty n1 n2 st t1 t2 t3 cc v B F X N T hk hdp hun h1 h1' h2 h2' hst hx hy hxs hys hv hret
  subst hv
  exact lev w mean mg mb dp un gd cn cs a ccd cl outer A₀ base h₀ L m s Q E news x y tx ty n1 n2 st t1 t2 t3 cc B F X N T hk hdp hun h1 h1' h2 h2' hst hx hy hxs hys hret
theorem mul_len {c : Str} {st : Nat} (hc : c.length = 1) : (Txt.mul c (st : Int)).length = st := by
  have h := len_mul_k1 (x := c) (n := (st : Int)) hc
  rw [if_neg (by omega)] at h
  omega
theorem x1 : (Str.ofString "x").length = 1 := by decide
theorem y1 : (Str.ofString "y").length = 1 := by decide
theorem yx2 : (Str.ofString "yx").length ≤ 2 := by decide
theorem x2 : (Str.ofString "x").length ≤ 2 := by decide
section
variable {a p z b q z' x y : Str} {st : Nat}
theorem win_dt {sw : Bool} (ha : a.length = st) (hb : b.length = st) (h : ∀ sw, dt sw (sg p 0) (sg q 0) p.length q.length = dt sw (sg x 0) (sg y 0) x.length y.length) :
    dt sw (sg (a ++ p ++ z) st) (sg (b ++ q ++ z') st) p.length q.length = dt sw (sg x 0) (sg y 0) x.length y.length :=
  (dt_congr _ _ _ (Nat.le_refl _) (fun i hi => sg_win ha.symm hi) (fun i hi => sg_win hb.symm hi)).trans (h sw)
theorem win_in (ha : a.length = st) : st + p.length ≤ (a ++ p ++ z).length := by
  rw [Str.length_append, Str.length_append]; omega
theorem win_le (ha : a.length = st) (hs : st ≤ 3) (hp : p.length ≤ 7) (hz : z.length ≤ 2) : (a ++ p ++ z).length ≤ 20 := by
  rw [Str.length_append, Str.length_append]; omega
end
theorem sl_len {ds : List Int} {q : Str} (h : ds.length = 24) (hq : q.length ≤ 7) : (List.take (min (8 + (q.length : Int)).toNat ds.length - Int.toNat 8) (List.drop (Int.toNat 8) ds)).length = q.length := by
  rw [List.length_take, List.length_drop, h]
  have e : Int.toNat 8 = 8 := rfl
  omega
theorem led_off {D : Addr} {l : List (Addr × Obj)} (h : AllLt D l) : ∀ q ∈ l, q.1 ≠ D := fun q hq => Nat.ne_of_lt (kst_ltOf h q hq)
end Mine
end TCallV

section TReprP
open PySem PySem.W PyProof.Rows PySem.Spec PySem.Calls
namespace Mine
section
variable {prog : Program} {w : World} {A : Around} {E : Value → Shared → Prop} {s : Shared}
theorem repr_dt {sw : Bool} {a b : Nat → Str} {i j : Nat} {t : Tok} {Q : Value → Shared → Prop} (hi : i ≤ 7) (hj : j ≤ 7)
    (h : Q (.str (toString (dt sw a b i j)) s.toks) { s with toks := s.toks + 1 }) : wpAny (model prog w) A (call (.builtin "repr") [.int (dt sw a b i j) t]) Q E s := by
  refine P.repr_of_int ?_ h
  have hb := dt_bnd sw a b (i + j) i j (Nat.le_refl _)
  have h1 : (dt sw a b i j).natAbs ≤ 14 := by omega
  exact Nat.lt_of_le_of_lt (Nat.log2_le_self _) (by omega)
theorem ne_same {x : Str} {t u : Tok} {Q : Value → Shared → Prop} (h : Q (.bool false) s) : wpAny (model prog w) A (compareOp .NotEq (.str x t) (.str x u)) Q E s := by
  refine PyProof.Rows.ne_str ?_
  rw [bne_self_eq_false]
  exact h
end
end Mine
end TReprP

section TMainC
open PySem PySem.W PyProof.Rows PySem.Spec PySem.Calls
namespace Mine
theorem room0 : callerA.depth + 1 + 10 < recursionLimit := by decide
theorem room1 : callerA.depth + 1 + 20 < recursionLimit := by decide
theorem unit0 : callerA.units + 3 + 100 < cLine := by decide
theorem unit1 : callerA.units + 3 + 200 < cLine := by decide
local macro_rules | `(tactic| walk_at "exec For Tuple Call cons nil") => `(tactic| (refine Hold.out ?_))
local macro_rules | `(tactic| walk_at "pyIter ref") => `(tactic| ((rename MarkA => mA'); refine Hold.out ?_))
local macro_rules | `(tactic| walk_at "subscriptTail") => `(tactic| (k_here; (with_reducible show wpAny _ _ (subscriptTail (PySem.Expr.Call _ _ _ _) _ _ _) _ _ _); k_dflt (refine kba_turn (value' := PySem.Expr.Name (PySem.Str.ofString "_") ⟨0, 0, 0, 0⟩) (fun _ => rfl) ?_)))
local macro_rules | `(tactic| walk_at "subscriptTail Name Slice ref ref") => `(tactic| (k_here; (with_reducible show wpAny _ _ (subscriptTail _ (PySem.Expr.Slice _ _ none _) (Value.ref _) (Value.ref _)) _ _ _); k_dflt (refine' kmk_slice_ints (s := Shared.mk _ _ _ _ _) ?zF ?zN ?zl ?zp ?zq ?zi ?zm ?zc ?_ ?zs ?zt ?zz; (case zF => k_asm); (case zN => k_asm); (case zl => kmk_list); (case zp => kmk_part); (case zq => kmk_part); (case zi => with_reducible assumption); (case zm => first | with_reducible exact kmk_from (by with_reducible assumption) (by omega) | with_reducible exact kmk_upto (by with_reducible assumption) (by omega) | with_reducible exact kmk_run (by with_reducible assumption) (by omega) (by omega)); (case zc => first | with_reducible exact List.length_drop .. | with_reducible exact (List.length_take ..).trans (congrArg _ (List.length_drop ..)) | with_reducible exact List.length_take ..); (case zs => with_unfolding_all rfl); (case zt => kmk_pure); (case zz => (refine kmk_sz (by with_reducible assumption) ?_; (simp only [sizeLine_eq, List.length_append, List.length_drop, List.length_take]); omega))); intro D' ws' h' F' N' l1 hI' hC' hL'; (try k_lt l1)))
local macro_rules | `(tactic| walk_at "call ref") => `(tactic| (k_here; (with_reducible show wpAny _ _ (call (Value.ref 136) _) _ _ _);  k_dflt (refine' rest _ _ _ _ _ _ _ _ _ _ _ _ _ _ _ _ _ _ _ _ _ _ ?k1 ?k2 ?k3 ?k4 ?k5 ?kK ?kd ?ku  ?_); (case k1 => k_asm); (case k2 => k_asm); (case k3 => k_asm); (case k4 => k_asm); (case k5 => k_asm); (case kK => first | exact rfl | assumption); (case kd => first | with_reducible exact room0 | with_reducible exact room1); (case ku => first | with_reducible exact unit0 | with_reducible exact unit1);  intro R1 vs1 rs1 h1 tk1 hL1 hb1 hI1 F1 N1 l1; (try k_lt l1);  (try dsimp only); (try k_fold)))
local macro_rules | `(tactic| walk_at "call ref") => `(tactic| (k_here; (with_reducible show wpAny _ _ (call (Value.ref 160) _) _ _ _);  k_dflt (refine' pairs _ _ _ _ _ _ _ _ _ _ _ _ _ _ _ _ _ _ _ _ _ _ _ _ _ ?k1 ?k2 ?k3 ?k4 ?k5 ?kK ?kd ?ku ?q0 ?q1 ?q2 ?q3 ?_); (case k1 => k_asm); (case k2 => k_asm); (case k3 => k_asm); (case k4 => k_asm); (case k5 => k_asm); (case kK => first | exact rfl | assumption); (case kd => first | with_reducible exact room0 | with_reducible exact room1); (case ku => first | with_reducible exact unit0 | with_reducible exact unit1); (case q0 => assumption); (case q1 => assumption); (case q2 => assumption); (case q3 => assumption); intro P1 ps1 n1 h1 tk1 hp1 hp2 hp3 F1 N1;  (try dsimp only); (try k_fold)))
local macro_rules | `(tactic| walk_at "call ref") => `(tactic| (k_here; (with_reducible show wpAny _ _ (call (Value.ref 153) _) _ _ _);  k_dflt (refine' grid _ _ _ _ _ _ _ _ _ _ _ _ _ _ _ _ _ _ _ _ _ _ _ _ _ _ _ ?k1 ?k2 ?k3 ?k4 ?k5 ?kK ?kd ?ku ?q0 ?q1 ?q2 ?q3 ?_); (case k1 => k_asm); (case k2 => k_asm); (case k3 => k_asm); (case k4 => k_asm); (case k5 => k_asm); (case kK => first | exact rfl | assumption); (case kd => first | with_reducible exact room0 | with_reducible exact room1); (case ku => first | with_reducible exact unit0 | with_reducible exact unit1); (case q0 => assumption); (case q1 => assumption); (case q2 => assumption); (case q3 => assumption); intro t1 h1 tk1 F1 N1;  (try dsimp only); (try k_fold)))
local macro_rules | `(tactic| walk_at "call ref") => `(tactic| (k_here; (with_reducible show wpAny _ _ (call (Value.ref 113) _) _ _ _);  k_dflt (refine' osaV _ _ _ _ _ _ _ _ _ _ _ _ _ _ _ _ _ _ _ _ _ _ _ _ _ _ _ _ _ _ _ _ _ _ _ _ _ _ ?k1 ?k2 ?k3 ?k4 ?k5 ?kK ?kd ?ku ?q0 ?q1 ?q2 ?q3 ?q4 ?q5 ?q6 ?q7 ?q8 ?q9 ?q10 ?q11 ?q12 ?_); (case k1 => k_asm); (case k2 => k_asm); (case k3 => k_asm); (case k4 => k_asm); (case k5 => k_asm); (case kK => first | exact rfl | assumption); (case kd => first | with_reducible exact room0 | with_reducible exact room1); (case ku => first | with_reducible exact unit0 | with_reducible exact unit1); (case q0 => assumption); (case q1 => exact sl_len (by assumption) (by assumption)); (case q2 => exact led_off (by assumption)); (case q3 => assumption); (case q4 => assumption); (case q5 => assumption); (case q6 => assumption); (case q7 => assumption); (case q8 => exact win_in (mul_len x1)); (case q9 => exact win_in (mul_len y1)); (case q10 => exact win_le (mul_len x1) (by assumption) (by assumption) yx2); (case q11 => exact win_le (mul_len y1) (by assumption) (by assumption) x2); (case q12 => exact win_dt (mul_len x1) (mul_len y1) (by assumption)); intro t1 h1 tk1 F1 N1;  (try dsimp only); (try k_fold)))
local macro_rules | `(tactic| walk_at "call ref") => `(tactic| (k_here; (with_reducible show wpAny _ _ (call (Value.ref 73) _) _ _ _);  k_dflt (refine' levV _ _ _ _ _ _ _ _ _ _ _ _ _ _ _ _ _ _ _ _ _ _ _ _ _ _ _ _ _ _ _ _ _ _ ?k1 ?k2 ?k3 ?k4 ?k5 ?kK ?kd ?ku ?q0 ?q1 ?q2 ?q3 ?q4 ?q5 ?q6 ?q7 ?q8 ?q9 ?_); (case k1 => k_asm); (case k2 => k_asm); (case k3 => k_asm); (case k4 => k_asm); (case k5 => k_asm); (case kK => first | exact rfl | assumption); (case kd => first | with_reducible exact room0 | with_reducible exact room1); (case ku => first | with_reducible exact unit0 | with_reducible exact unit1); (case q0 => assumption); (case q1 => assumption); (case q2 => assumption); (case q3 => assumption); (case q4 => assumption); (case q5 => exact win_in (mul_len x1)); (case q6 => exact win_in (mul_len y1)); (case q7 => exact win_le (mul_len x1) (by assumption) (by assumption) yx2); (case q8 => exact win_le (mul_len y1) (by assumption) (by assumption) x2); (case q9 => exact win_dt (mul_len x1) (mul_len y1) (by assumption)); intro t1 h1 tk1 F1 N1;  (try dsimp only); (try k_fold)))
local macro_rules | `(tactic| walk_at "call ref") => `(tactic| (k_here; (with_reducible show wpAny _ _ (call (Value.ref 113) _) _ _ _); refine Hold.out ?_))
local macro_rules | `(tactic| walk_at "exec If") => `(tactic| (k_here; (with_reducible show wpAny _ _ (exec (Stmt.If (PySem.Expr.Compare _ _ _ _) [Stmt.Return _ _] [] _) _) _ _ _); refine wpAny_If ?_; (try k_fold)))
local macro_rules | `(tactic| walk_at "call builtin:repr") => `(tactic| (k_here; (with_reducible show wpAny _ _ (call (Value.builtin "repr") [Value.int (dt _ _ _ _ _) _]) _ _ _); refine repr_dt (by assumption) (by assumption) ?_))
local macro_rules | `(tactic| walk_at "compareOp NotEq str str") => `(tactic| (k_here; refine ne_same ?_))
set_option maxRecDepth 100000 in
set_option maxHeartbeats 0 in
theorem lawBody : lawHead.1 := by
  delta lawHead
  dsimp only
  k_with_none
  w_top off
  k_fill
  intro w s0 s1 mg mb fa X0 T0 w7 ns Y0 l vs L0 I0 h1 F0 N0 C0 B0 K1
  have mA : MarkA := MarkA.mk
  show wpAny _ _ _ _ _ _
  k_fold
  k_steps
  refine Hold.into ?_
  have hbit : ∀ z ∈ ns, Builtin.Int.intBits z ≤ 1048576 := fun z hz => PySem.intBits_le_of_item hz Y0
  rename List.length _ = 24 => hL1
  rename IntsAre _ (List.take _ _) => hD
  obtain ⟨ds, hds, hdl, hdb⟩ := draws24 hL1 (by assumption) hbit hD
  refine For_turns (by k_asm) ?_
  (try k_fold)
  k_steps
  refine Hold.into ?_
  rename MarkA => mA
  clear mA
  refine main_loop rfl (by k_asm) (by k_asm) (by assumption) (by assumption) (by assumption) (by rfl) ?turn ?done
  case done =>
    intro c t u h tk hc F3 N3
    (try k_fold)
    k_steps
    exact law_end hc F3 N3
  case turn =>
    intro a x y tx ty tp st c t u h tk o I hx1 hx7 hy1 hy7 hst hc0 hc8 ho F3 N3
    (try k_fold)
    k_steps
    refine two_loop [Str.ofString "near", Str.ofString "far", Str.ofString "string_a", Str.ofString "string_b", Str.ofString "told"] rfl (by k_asm) (by k_asm) hx1 hx7 hy1 hy7 (by rfl) ?turn2 ?done2
    case done2 =>
      intro t6 u6 h6 tk6 F6 N6
      (try k_fold)
      k_steps
      exact mpost_of F6 N6 (fun p hp => .tail _ (.tail _ hp)) (if_pos rfl) (by
        intro z z1 z2
        obtain ⟨⟨a1, a2, a3, a4, a5⟩, z3⟩ := no10 z2
        simp only [if_neg z1, if_neg z2, if_neg z3, if_neg a1, if_neg a2, if_neg a3, if_neg a4, if_neg a5]) rfl
    case turn2 =>
      intro p q tp6 tq6 Tc d t6 u6 h6 tk6 o6 I6 hp1 hp7 hq1 hq7 hdt hd0 hd1 ho6 F6 N6
      (try k_fold)
      k_steps
      refine Hold.into ?_
      k_dflt (refine' osaV _ _ _ _ _ _ _ _ _ _ _ _ _ _ _ _ _ _ _ _ _ _ _ _ _ _ _ _ _ _ _ _ _ _ _ _ _ _ ?zk1 ?zk2 ?zk3 ?zk4 ?zk5 ?zkK ?zkd ?zku ?zq0 ?zq1 ?zq2 ?zq3 ?zq4 ?zq5 ?zq6 ?zq7 ?zq8 ?zq9 ?zq10 ?zq11 ?zq12 ?_)
      (case zk1 => k_asm)
      (case zk2 => k_asm)
      (case zk3 => k_asm)
      (case zk4 => k_asm)
      (case zk5 => k_asm)
      (case zkK => first | exact rfl | assumption)
      (case zkd => first | with_reducible exact room0 | with_reducible exact room1)
      (case zku => first | with_reducible exact unit0 | with_reducible exact unit1)
      (case zq0 => assumption)
      (case zq1 => exact sl_len (by assumption) (by assumption))
      (case zq2 => exact led_off (by assumption))
      (case zq3 => assumption)
      (case zq4 => assumption)
      (case zq5 => assumption)
      (case zq6 => assumption)
      (case zq7 => assumption)
      (case zq8 => exact win_in (mul_len x1))
      (case zq9 => exact win_in (mul_len y1))
      (case zq10 => exact win_le (mul_len x1) (by assumption) (by assumption) yx2)
      (case zq11 => exact win_le (mul_len y1) (by assumption) (by assumption) x2)
      (case zq12 => exact win_dt (mul_len x1) (mul_len y1) (by assumption))
      intro t11 h11 tk11 F11 N11
      (try dsimp only)
      (try k_fold)
      k_steps
      refine tpost_of (by k_asm) (by k_asm) ?su (if_pos rfl) ?re rfl
      case su =>
        intro p hp
        exact .tail _ (.tail _ (.tail _ (.tail _ hp)))
      case re => 
        intro z z1 z2
        obtain ⟨a1, a2, a3, a4, a5⟩ := no5 z2
        simp only [if_neg z1, if_neg z2, if_neg a1, if_neg a2, if_neg a3, if_neg a4, if_neg a5]
end Mine
end TMainC

theorem PySem.Challenge.cw_fp5024_01_holds : PySem.Challenge.rw_fp5024_01.Holds := by
  exact Mine.lawHead.2 Mine.lawBody
