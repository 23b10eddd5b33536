import PyProof.Rows.All
import Wide.All
import OpenK.AllK
import Wide.FinOn
import Lean
import PySem.Challenge.RW_ji0059_01
set_option Elab.async false
set_option maxRecDepth 100000
namespace Mine
section
local macro_rules | `(tactic| o_head $_) => `(tactic| assumption)
theorem kd (h : PySem.Challenge.rw_ji0059_01.row.Holds) : PySem.Challenge.rw_ji0059_01.row.Holds := by k_head
end
local macro_rules | `(tactic| k_room) => `(tactic| walk_at "k:k_room")
local macro_rules | `(tactic| k_enter) => `(tactic| walk_at "k:k_enter")
local macro_rules | `(tactic| k_mem) => `(tactic| walk_at "k:k_mem")
local macro_rules | `(tactic| k_ne) => `(tactic| walk_at "k:k_ne")
local macro_rules | `(tactic| k_all) => `(tactic| walk_at "k:k_all")
local macro_rules | `(tactic| k_lt $h:ident) => `(tactic| (replace $h := PySem.W.allLt_of $h; dsimp only [PySem.W.AllLt] at $h:ident))
section
abbrev Row := Int × Int
def wsum (st W : Int) : List Row → Int
  | [] => 0
  | r :: l => (if r.1 - st < W then r.2 else 0) + wsum st W l
def fitsM (A W : Int) : List Row → Bool
  | [] => true
  | r :: l => decide (wsum r.1 W (r :: l) ≤ A) && fitsM A W l
def fopen (W : Int) (op : Option Int) (t : Int) : Bool := match op with
  | none => true
  | some o => decide (W ≤ t - o)
def fitsF (A W : Int) : Option Int → Int → List Row → Bool
  | _, _, [] => true
  | op, tot, r :: l =>
    if fopen W op r.1 then decide (r.2 ≤ A) && fitsF A W (some r.1) r.2 l
    else decide (tot + r.2 ≤ A) && fitsF A W op (tot + r.2) l
def fstate (W : Int) : Option Int → Int → List Row → Option Int × Int
  | op, tot, [] => (op, tot)
  | op, tot, r :: l => if fopen W op r.1 then fstate W (some r.1) r.2 l else fstate W op (tot + r.2) l
def csum (now W : Int) : List Row → Int
  | [] => 0
  | r :: l => (if now - r.1 < W then r.2 else 0) + csum now W l
def evOf (rows : List Row) : List Int := rows.reverse.flatMap fun r => List.replicate r.2.toNat r.1
def idx (b : Int) (evs : List Int) : Nat := (evs.takeWhile fun e => decide (b < e)).length
abbrev Up (l : List Row) : Prop := l.Pairwise fun a b => a.1 ≤ b.1
abbrev Desc (l : List Int) : Prop := l.Pairwise fun a b => b ≤ a
abbrev Till (now : Int) (l : List Row) : Prop := ∀ r ∈ l, r.1 ≤ now
abbrev Paid (l : List Row) : Prop := ∀ r ∈ l, 1 ≤ r.2

theorem evOf_snoc (l : List Row) (t c : Int) : evOf (l ++ [(t, c)]) = List.replicate c.toNat t ++ evOf l := by
  simp [evOf]
theorem evOf_nil : evOf [] = [] := rfl
theorem wsum_append (st W : Int) : ∀ a b, wsum st W (a ++ b) = wsum st W a + wsum st W b
  | [], b => by simp [wsum]
  | r :: a, b => by simp only [List.cons_append, wsum, wsum_append st W a b]; omega
theorem csum_append (now W : Int) : ∀ a b, csum now W (a ++ b) = csum now W a + csum now W b
  | [], b => by simp [csum]
  | r :: a, b => by simp only [List.cons_append, csum, csum_append now W a b]; omega
theorem csum_nonneg {now W : Int} : ∀ {l : List Row}, Paid l → 0 ≤ csum now W l
  | [], _ => by simp [csum]
  | r :: l, h => by
    have := csum_nonneg (now := now) (W := W) (l := l) fun x hx => h x (.tail _ hx)
    have := h r (.head _)
    simp only [csum]; split <;> omega
theorem csum_mono {now W V : Int} (hv : W ≤ V) : ∀ {l : List Row}, Paid l → csum now W l ≤ csum now V l
  | [], _ => by simp [csum]
  | r :: l, h => by
    have := csum_mono (now := now) hv (l := l) fun x hx => h x (.tail _ hx)
    have := h r (.head _)
    simp only [csum]; split <;> split <;> omega
/-- all rows in the window of the first -/
theorem wsum_full {st now W : Int} : ∀ {l : List Row}, (∀ r ∈ l, st ≤ r.1) → Till now l → now - st < W → wsum st W l = csum now W l
  | [], _, _, _ => rfl
  | r :: l, h, ht, hw => by
    have h1 := h r (.head _)
    have h2 := ht r (.head _)
    simp only [wsum, csum]
    rw [wsum_full (fun x hx => h x (.tail _ hx)) (fun x hx => ht x (.tail _ hx)) hw, if_pos (by omega), if_pos (by omega)]
theorem fitsM_snoc {A W now c : Int} (hW : 1 ≤ W) : ∀ {l : List Row}, Up l → Till now l → Paid l → fitsM A W l = true → fitsM A W (l ++ [(now, c)]) = decide (csum now W l + c ≤ A)
  | [], _, _, _, _ => by
    simp only [List.nil_append, fitsM, wsum, csum, Bool.and_true, Int.sub_self]
    rw [if_pos (by omega)]
    exact decide_eq_decide.mpr (by omega)
  | r :: l, hu, ht, hp, hf => by
    simp only [fitsM, Bool.and_eq_true, decide_eq_true_eq] at hf
    have hu' := List.pairwise_cons.mp hu
    have hp' : Paid l := fun x hx => hp x (.tail _ hx)
    have ih := fitsM_snoc (c := c) hW hu'.2 (fun x hx => ht x (.tail _ hx)) hp' hf.2
    have h1 := hp r (.head _)
    simp only [List.cons_append, fitsM, ih]
    rw [← List.cons_append, wsum_append]
    by_cases hw : now - r.1 < W
    · rw [wsum_full (now := now) (l := r :: l) (fun x hx => by
        rcases List.mem_cons.mp hx with rfl | hx
        · omega
        · exact hu'.1 x hx) ht hw]
      have e1 : wsum r.1 W [(now, c)] = c := by simp only [wsum]; rw [if_pos hw]; omega
      have e2 : csum now W (r :: l) = r.2 + csum now W l := by simp only [csum]; rw [if_pos hw]
      rw [e1, ← Bool.decide_and]
      exact decide_eq_decide.mpr (by omega)
    · have e1 : csum now W (r :: l) = csum now W l := by simp only [csum]; rw [if_neg hw]; omega
      have e2 : wsum r.1 W [(now, c)] = 0 := by simp only [wsum]; rw [if_neg hw]; omega
      rw [e2, ← Bool.decide_and]
      exact decide_eq_decide.mpr (by omega)
theorem known_le {A V now c : Int} (hV : 1 ≤ V) : ∀ {l : List Row}, Up l → Till now l → fitsM A V (l ++ [(now, c)]) = true → csum now V l + c ≤ A
  | [], _, _, hf => by
    simp only [List.nil_append, fitsM, wsum, Bool.and_true, Int.sub_self, decide_eq_true_eq] at hf
    rw [if_pos (by omega)] at hf
    simp only [csum]; omega
  | r :: l, hu, ht, hf => by
    have hu' := List.pairwise_cons.mp hu
    simp only [List.cons_append, fitsM, Bool.and_eq_true, decide_eq_true_eq] at hf
    rw [← List.cons_append, wsum_append] at hf
    by_cases hw : now - r.1 < V
    · rw [wsum_full (now := now) (l := r :: l) (fun x hx => by
        rcases List.mem_cons.mp hx with rfl | hx
        · omega
        · exact hu'.1 x hx) ht hw] at hf
      have := hf.1
      simp only [wsum] at this
      rw [if_pos hw] at this
      omega
    · have : csum now V (r :: l) = csum now V l := by simp only [csum]; rw [if_neg hw]; omega
      rw [this]
      exact known_le hV hu'.2 (fun x hx => ht x (.tail _ hx)) hf.2
theorem csum_zero {now W : Int} : ∀ {l : List Row}, (∀ r ∈ l, ¬ now - r.1 < W) → csum now W l = 0
  | [], _ => rfl
  | r :: l, h => by
    simp only [csum]; rw [if_neg (h r (.head _)), csum_zero fun x hx => h x (.tail _ hx)]; rfl
theorem takeWhile_rep (p : Int → Bool) (t : Int) (l : List Int) : ∀ n, p t = true → (List.replicate n t ++ l).takeWhile p = List.replicate n t ++ l.takeWhile p
  | 0, _ => by simp
  | n + 1, h => by simp [List.replicate_succ, h, takeWhile_rep p t l n h]
theorem idx_ev {now W : Int} (l : List Row) : Up l → Paid l → (idx (now - W) (evOf l) : Int) = csum now W l := by
  generalize hn : l.length = n
  induction n generalizing l with
  | zero => intro _ _; rw [List.length_eq_zero_iff.mp hn]; rfl
  | succ n ih =>
    intro hu hp
    have hne : l ≠ [] := by intro e; rw [e] at hn; cases hn
    obtain ⟨k, r, rfl⟩ : ∃ k r, l = k ++ [r] := ⟨_, _, (List.dropLast_concat_getLast hne).symm⟩
    obtain ⟨t, c⟩ := r
    have hk : k.length = n := by simp at hn; exact hn
    have hu2 := List.pairwise_append.mp hu
    have ih' := ih k hk hu2.1 fun x hx => hp x (List.mem_append_left _ hx)
    have hc : 1 ≤ c := hp (t, c) (by simp)
    rw [evOf_snoc, csum_append]
    simp only [csum, Int.add_zero]
    by_cases hw : now - t < W
    · rw [if_pos hw]
      unfold idx at ih' ⊢
      rw [takeWhile_rep _ _ _ _ (by simp only [decide_eq_true_eq]; omega), List.length_append, List.length_replicate]
      omega
    · rw [if_neg hw]
      have hz : csum now W k = 0 := csum_zero fun r hr => by
        have := hu2.2.2 r hr (t, c) (by simp)
        simp only at this; omega
      rw [hz]
      have e : c.toNat = (c.toNat - 1) + 1 := by omega
      unfold idx
      rw [e, List.replicate_succ, List.cons_append, List.takeWhile_cons_of_neg (by simp only [decide_eq_true_eq]; omega)]
      rfl
theorem mem_evOf {l : List Row} {e : Int} (h : e ∈ evOf l) : ∃ r ∈ l, r.1 = e := by
  unfold evOf at h
  obtain ⟨r, hr, he⟩ := List.mem_flatMap.mp h
  exact ⟨r, List.mem_reverse.mp hr, (List.eq_of_mem_replicate he).symm⟩
theorem desc_ev (l : List Row) : Up l → Desc (evOf l) := by
  generalize hn : l.length = n
  induction n generalizing l with
  | zero => intro _; rw [List.length_eq_zero_iff.mp hn]; exact List.Pairwise.nil
  | succ n ih =>
    intro hu
    have hne : l ≠ [] := by intro e; rw [e] at hn; cases hn
    obtain ⟨k, r, rfl⟩ : ∃ k r, l = k ++ [r] := ⟨_, _, (List.dropLast_concat_getLast hne).symm⟩
    obtain ⟨t, c⟩ := r
    have hk : k.length = n := by simp at hn; exact hn
    have hu2 := List.pairwise_append.mp hu
    rw [evOf_snoc]
    refine List.pairwise_append.mpr ⟨?_, ih k hk hu2.1, ?_⟩
    · rw [List.pairwise_replicate]; right; omega
    · intro a ha b hb
      obtain ⟨r, hr, rfl⟩ := mem_evOf hb
      have := hu2.2.2 r hr (t, c) (by simp)
      rw [List.eq_of_mem_replicate ha]; exact this
theorem idx_le (b : Int) (l : List Int) : idx b l ≤ l.length := (List.takeWhile_sublist _).length_le
theorem idx_get {b : Int} : ∀ {l : List Int} {i : Nat} {e : Int}, i < idx b l → l[i]? = some e → b < e
  | [], i, e, h, he => by simp at he
  | x :: l, i, e, h, he => by
    unfold idx at h
    by_cases hx : b < x
    · rw [List.takeWhile_cons_of_pos (by simpa using hx)] at h
      cases i with
      | zero => simp at he; omega
      | succ i => exact idx_get (l := l) (i := i) (by unfold idx; simpa using h) (by simpa using he)
    · rw [List.takeWhile_cons_of_neg (by simpa using hx)] at h
      simp at h
theorem idx_at {b : Int} : ∀ {l : List Int} {e : Int}, l[idx b l]? = some e → e ≤ b
  | [], e, he => by simp at he
  | x :: l, e, he => by
    by_cases hx : b < x
    · have : idx b (x :: l) = idx b l + 1 := by unfold idx; rw [List.takeWhile_cons_of_pos (by simpa using hx)]; rfl
      rw [this] at he
      exact idx_at (l := l) (by simpa using he)
    · have : idx b (x :: l) = 0 := by unfold idx; rw [List.takeWhile_cons_of_neg (by simpa using hx)]; rfl
      rw [this] at he
      simp at he; omega
theorem desc_get {l : List Int} (h : Desc l) {i j : Nat} {x y : Int} (hij : i ≤ j) (hx : l[i]? = some x) (hy : l[j]? = some y) : y ≤ x := by
  rcases Nat.lt_or_eq_of_le hij with hlt | rfl
  · obtain ⟨h1, rfl⟩ := List.getElem?_eq_some_iff.mp hx
    obtain ⟨h2, rfl⟩ := List.getElem?_eq_some_iff.mp hy
    exact List.pairwise_iff_getElem.mp h i j h1 h2 hlt
  · rw [hx] at hy; cases hy; omega
theorem idx_past {b : Int} {l : List Int} (hd : Desc l) {i : Nat} {e : Int} (h : idx b l ≤ i) (he : l[i]? = some e) : e ≤ b := by
  have hl : i < l.length := (List.getElem?_eq_some_iff.mp he).1
  have hk : idx b l < l.length := by omega
  have h1 : l[idx b l]? = some l[idx b l] := List.getElem?_eq_getElem hk
  have := idx_at h1
  have := desc_get hd h h1 he
  omega
/-- what the search by halves finds -/
theorem idx_unique {b : Int} {l : List Int} {k : Nat} (hk : k ≤ l.length) (hlo : ∀ i e, i < k → l[i]? = some e → b < e) (hhi : ∀ e, l[k]? = some e → e ≤ b) : k = idx b l := by
  rcases Nat.lt_trichotomy k (idx b l) with h | h | h
  · have : k < l.length := Nat.lt_of_lt_of_le h (idx_le b l)
    have e1 : l[k]? = some l[k] := List.getElem?_eq_getElem this
    have := idx_get h e1
    have := hhi _ e1
    omega
  · exact h
  · have : idx b l < l.length := by omega
    have e1 : l[idx b l]? = some l[idx b l] := List.getElem?_eq_getElem this
    have := idx_at e1
    have := hlo _ _ h e1
    omega

-- the fixed window
def fval (W : Int) (rows : List Row) (now : Int) : Int :=
  if fopen W (fstate W none 0 rows).1 now then 0 else (fstate W none 0 rows).2
theorem fitsF_append (A W : Int) : ∀ (a b : List Row) (op : Option Int) (tot : Int), fitsF A W op tot (a ++ b) = (fitsF A W op tot a && fitsF A W (fstate W op tot a).1 (fstate W op tot a).2 b)
  | [], b, op, tot => by simp [fitsF, fstate]
  | r :: a, b, op, tot => by
    simp only [List.cons_append, fitsF, fstate]
    split
    · rw [fitsF_append A W a b, Bool.and_assoc]
    · rw [fitsF_append A W a b, Bool.and_assoc]
theorem fstate_append (W : Int) : ∀ (a b : List Row) (op : Option Int) (tot : Int), fstate W op tot (a ++ b) = fstate W (fstate W op tot a).1 (fstate W op tot a).2 b
  | [], b, op, tot => rfl
  | r :: a, b, op, tot => by
    simp only [List.cons_append, fstate]
    split <;> rw [fstate_append W a b]
theorem fitsF_snoc {A W now c : Int} {l : List Row} (h : fitsF A W none 0 l = true) : fitsF A W none 0 (l ++ [(now, c)]) = decide (fval W l now + c ≤ A) := by
  rw [fitsF_append, h, Bool.true_and]
  simp only [fitsF, fval]
  split <;> rw [Bool.and_true]
  exact decide_eq_decide.mpr (by omega)
theorem fstate_snoc {W now c : Int} {l : List Row} : fstate W none 0 (l ++ [(now, c)]) = if fopen W (fstate W none 0 l).1 now then (some now, c) else ((fstate W none 0 l).1, (fstate W none 0 l).2 + c) := by
  rw [fstate_append]; rfl
theorem fstate_tot {W : Int} : ∀ {l : List Row} {op : Option Int} {tot : Int}, Paid l → (op.isSome = true → 1 ≤ tot) → (fstate W op tot l).1.isSome = true → 1 ≤ (fstate W op tot l).2
  | [], op, tot, _, h => h
  | r :: l, op, tot, hp, h => by
    have h1 := hp r (.head _)
    simp only [fstate]
    split
    · exact fstate_tot (fun x hx => hp x (.tail _ hx)) fun _ => h1
    · refine fstate_tot (fun x hx => hp x (.tail _ hx)) fun hs => ?_
      have := h hs; omega
theorem fstate_le {A W : Int} : ∀ {l : List Row} {op : Option Int} {tot : Int}, tot ≤ A → fitsF A W op tot l = true → (fstate W op tot l).2 ≤ A
  | [], op, tot, h, _ => h
  | r :: l, op, tot, h, hf => by
    simp only [fitsF, fstate] at hf ⊢
    split at hf
    · rename_i ho
      rw [if_pos ho]
      simp only [Bool.and_eq_true, decide_eq_true_eq] at hf
      exact fstate_le hf.1 hf.2
    · rename_i ho
      rw [if_neg ho]
      simp only [Bool.and_eq_true, decide_eq_true_eq] at hf
      exact fstate_le hf.1 hf.2
theorem fval_le {A W now : Int} {l : List Row} (hA : 0 ≤ A) (hf : fitsF A W none 0 l = true) : fval W l now ≤ A := by
  unfold fval; split
  · exact hA
  · exact fstate_le hA hf
theorem fval_pos {W now : Int} {l : List Row} (hp : Paid l) (h : fopen W (fstate W none 0 l).1 now = false) : 1 ≤ fval W l now := by
  unfold fval
  rw [if_neg (by rw [h]; exact Bool.false_ne_true)]
  refine fstate_tot hp (fun h => by cases h) ?_
  revert h
  cases (fstate W none 0 l).1 with
  | none => intro h; cases h
  | some o => intro _; rfl

theorem take_split {rows : List Row} {i : Nat} {r : Row} (hri : rows[i]? = some r) : rows = rows.take i ++ (r :: rows.drop (i + 1)) := by
  obtain ⟨h, rfl⟩ := List.getElem?_eq_some_iff.mp hri
  rw [List.getElem_cons_drop, List.take_append_drop]
theorem take_next {rows : List Row} {i : Nat} {r : Row} (hri : rows[i]? = some r) : rows.take (i + 1) = rows.take i ++ [r] := by
  simp [List.take_add_one, hri]
theorem fitsF_bad {A W : Int} {rows : List Row} {i : Nat} {r : Row} {op : Option Int} {tot : Int} (hri : rows[i]? = some r) (hs : fstate W none 0 (rows.take i) = (op, tot))
    (hb : if fopen W op r.1 then ¬ r.2 ≤ A else ¬ tot + r.2 ≤ A) : fitsF A W none 0 rows = false := by
  rw [take_split hri, fitsF_append, hs]
  simp only [fitsF]
  split at hb
  · rename_i ho; rw [if_pos ho, decide_eq_false hb]; simp
  · rename_i ho; rw [if_neg ho, decide_eq_false hb]; simp
theorem fitsF_good {A W : Int} {rows : List Row} {i : Nat} {r : Row} {op : Option Int} {tot : Int} (hri : rows[i]? = some r) (hf : fitsF A W none 0 (rows.take i) = true) (hs : fstate W none 0 (rows.take i) = (op, tot))
    (hb : if fopen W op r.1 then r.2 ≤ A else tot + r.2 ≤ A) : fitsF A W none 0 (rows.take (i + 1)) = true := by
  rw [take_next hri, fitsF_append, hs, hf]
  simp only [fitsF]
  split at hb
  · rename_i ho; rw [if_pos ho, decide_eq_true hb]; rfl
  · rename_i ho; rw [if_neg ho, decide_eq_true hb]; rfl
theorem fstate_next {W : Int} {rows : List Row} {i : Nat} {r : Row} {op : Option Int} {tot : Int} (hri : rows[i]? = some r) (hs : fstate W none 0 (rows.take i) = (op, tot)) :
    fstate W none 0 (rows.take (i + 1)) = if fopen W op r.1 then (some r.1, r.2) else (op, tot + r.2) := by
  rw [take_next hri, fstate_append, hs]; rfl

theorem sum_filter (st W : Int) : ∀ l : List Row, ((l.filter fun r => decide (r.1 - st < W)).map (·.2)).sum = wsum st W l
  | [] => rfl
  | r :: l => by
    simp only [List.filter_cons, wsum]
    by_cases h : r.1 - st < W
    · rw [if_pos (decide_eq_true h), if_pos h, List.map_cons, List.sum_cons, sum_filter st W l]
    · rw [if_neg (by simp [h]), if_neg h, sum_filter st W l]; omega
theorem fitsM_all {A W : Int} : ∀ {rows : List Row}, (∀ j r, rows[j]? = some r → wsum r.1 W (rows.drop j) ≤ A) → fitsM A W rows = true
  | [], _ => rfl
  | r :: l, h => by
    simp only [fitsM, Bool.and_eq_true, decide_eq_true_eq]
    exact ⟨h 0 r rfl, fitsM_all fun j q hq => h (j + 1) q (by simpa using hq)⟩
theorem fitsM_bad {A W : Int} : ∀ {rows : List Row} {j : Nat} {r : Row}, rows[j]? = some r → ¬ wsum r.1 W (rows.drop j) ≤ A → fitsM A W rows = false
  | [], j, r, h, _ => by simp at h
  | q :: l, 0, r, h, hb => by
    simp at h; subst h
    rw [List.drop_zero] at hb
    simp only [fitsM]
    rw [decide_eq_false hb]; rfl
  | q :: l, j + 1, r, h, hb => by
    simp only [fitsM]
    rw [fitsM_bad (rows := l) (j := j) (r := r) (by simpa using h) hb, Bool.and_false]

-- the room
theorem room_most {A0 A1 A2 W0 W1 W2 now : Int} {l : List Row} (h0 : 1 ≤ W0) (h1 : 1 ≤ W1) (hu : Up l) (ht : Till now l) (hp : Paid l) (f0 : fitsM A0 W0 l = true) (f1 : fitsM A1 W1 l = true) (f2 : fitsF A2 W2 none 0 l = true) (hA : 0 ≤ A2) {r : Int}
    (hr : r = min (min (A0 - csum now W0 l) (A1 - csum now W1 l)) (max 0 (A2 - fval W2 l now))) :
    (fitsM A0 W0 (l ++ [(now, r)]) && fitsM A1 W1 (l ++ [(now, r)]) && fitsF A2 W2 none 0 (l ++ [(now, r)])) = true ∧
    (fitsM A0 W0 (l ++ [(now, r + 1)]) && fitsM A1 W1 (l ++ [(now, r + 1)]) && fitsF A2 W2 none 0 (l ++ [(now, r + 1)])) = false := by
  rw [fitsM_snoc h0 hu ht hp f0, fitsM_snoc h1 hu ht hp f1, fitsF_snoc f2, fitsM_snoc h0 hu ht hp f0, fitsM_snoc h1 hu ht hp f1, fitsF_snoc f2]
  have := fval_le (now := now) hA f2
  simp only [← Bool.decide_and, decide_eq_true_eq, decide_eq_false_iff_not]
  omega
end
section
open Lean PySem PySem.Calls PySem.W PyProof.Rows PyProof.V PySem.Spec
theorem room_le {a b c k : Nat} (h : a ≤ b) (hc : Nat.ble (b + k) c = true) : a + k ≤ c := Nat.le_trans (Nat.add_le_add_right h k) (Nat.le_of_ble_eq_true hc)
theorem room_lt {a b c : Nat} (h : a ≤ b) (hc : Nat.ble (b + 1) c = true) : a < c := Nat.le_trans (Nat.succ_le_succ h) (Nat.le_of_ble_eq_true hc)
def NeAll (a : Addr) : List (Addr × Obj) → Prop
  | [] => True
  | p :: r => p.1 ≠ a ∧ NeAll a r
theorem neAll_of {a : Addr} : ∀ {l : List (Addr × Obj)}, AllLt a l → NeAll a l
  | [], _ => trivial
  | _ :: _, h => ⟨Nat.ne_of_lt h.1, neAll_of h.2⟩
theorem NeAll.get {a : Addr} : ∀ {l : List (Addr × Obj)} {j : Nat} {q : Addr × Obj}, NeAll a l → l[j]? = some q → q.1 ≠ a := by
  intro l
  induction l with
  | nil => intro j q h e; simp at e
  | cons p r ih =>
    intro j q h e
    cases j with
    | zero => simp at e; subst e; exact h.1
    | succ j => simp at e; exact ih h.2 e
/-- the ledger's first n addresses lie apart from all behind them -/
def DistN : Nat → List (Addr × Obj) → Prop
  | n + 1, p :: r => NeAll p.1 r ∧ DistN n r
  | _, _ => True
theorem dist_ne0 {l : List (Addr × Obj)} : ∀ {n : Nat} (_ : DistN n l) (i j : Nat) {p q : Addr × Obj}, i < j → i < n → l[i]? = some p → l[j]? = some q → q.1 ≠ p.1 := by
  induction l with
  | nil => intro n h i j p q _ _ hi; simp at hi
  | cons x r ih =>
    intro n h i j p q hij hn hi hj
    cases j with
    | zero => omega
    | succ j =>
      cases n with
      | zero => omega
      | succ n =>
        simp at hj
        cases i with
        | zero => simp at hi; subst hi; exact h.1.get hj
        | succ i => simp at hi; exact ih h.2 i j (by omega) (by omega) hi hj
theorem dist_ne {n : Nat} {l : List (Addr × Obj)} (h : DistN n l) (i j : Nat) {p q : Addr × Obj} (hij : (Nat.ble (i + 1) j && Nat.ble (i + 1) n) = true) (hi : l[i]? = some p) (hj : l[j]? = some q) : q.1 ≠ p.1 :=
  dist_ne0 h i j (Nat.le_of_ble_eq_true (Bool.and_eq_true_iff.mp hij).1) (Nat.le_of_ble_eq_true (Bool.and_eq_true_iff.mp hij).2) hi hj
theorem not_sys {a : Addr} (h : 653 < a) : (a == sysModules) = false := by
  have h' : sysModules < a := Nat.lt_trans (by decide) h
  exact beq_eq_false_iff_ne.mpr (Nat.ne_of_gt h')
/-- the entry of an attribute -/
abbrev ent (w : World) (n : Str) (t : Tok) (v : Value) : DictEntry := { hash := PyData.keyHash w.params n, key := .str n t, val := v }
/-- a limit's item -/
inductive ItemIn (w : World) (news : List (Addr × Obj)) (it C : Addr) (amt mul : Int) : Prop
  | mk (d : _) (ka : _) (kb : _) (kc : _) (ta : _) (tb : _) (q0 : (it, instObj C d) ∈ news) (q1 : (d, dictOf [ent w "namespace" ka (.str (Str.ofString "LIMITER") 718), ent w "amount" kb (.int amt ta), ent w "multiples" kc (.int mul tb)] 3) ∈ news) : ItemIn w news it C amt mul
end
section
open Lean PySem PySem.Calls PySem.W PyProof.Rows PyProof.V PySem.Spec
/-- a row of the law's list: a tuple of two ints -/
inductive RowAt (news : List (Addr × Obj)) (v : Value) (r : Row) : Prop
  | mk (a : _) (t : _) (u : _) (n : _) (q0 : v = .ref a) (q1 : (a, ({ cls := .type "tuple", data := .seq #[.int r.1 t, .int r.2 u] n } : Obj)) ∈ news) : RowAt news v r
inductive RowsAre (news : List (Addr × Obj)) : List Value → List Row → Prop
  | nil : RowsAre news [] []
  | cons {v vs r rs} : RowAt news v r → RowsAre news vs rs → RowsAre news (v :: vs) (r :: rs)
theorem RowAt.mono {n n' : List (Addr × Obj)} {v r} (h : RowAt n v r) (hs : ∀ p ∈ n, p ∈ n') : RowAt n' v r :=
  let ⟨a, t, u, k, e, m⟩ := h; ⟨a, t, u, k, e, hs _ m⟩
theorem RowsAre.mono {n n' : List (Addr × Obj)} {vs rs} (h : RowsAre n vs rs) (hs : ∀ p ∈ n, p ∈ n') : RowsAre n' vs rs := by
  induction h with
  | nil => exact .nil
  | cons h _ ih => exact .cons (h.mono hs) ih
theorem RowsAre.length {n : List (Addr × Obj)} {vs rs} (h : RowsAre n vs rs) : vs.length = rs.length := by
  induction h with
  | nil => rfl
  | cons _ _ ih => simp [ih]
theorem RowsAre.append {n : List (Addr × Obj)} {vs rs ws qs} (h : RowsAre n vs rs) (k : RowsAre n ws qs) : RowsAre n (vs ++ ws) (rs ++ qs) := by
  induction h with
  | nil => exact k
  | cons h _ ih => exact .cons h ih
theorem RowsAre.get {n : List (Addr × Obj)} {vs rs} (h : RowsAre n vs rs) {i : Nat} {v : Value} (hv : vs[i]? = some v) : ∃ r, rs[i]? = some r ∧ RowAt n v r := by
  induction h generalizing i with
  | nil => simp at hv
  | cons h _ ih =>
    cases i with
    | zero => simp at hv; subst hv; exact ⟨_, rfl, h⟩
    | succ i => simpa using ih (by simpa using hv)
theorem RowsAre.drop {n : List (Addr × Obj)} {vs rs} (h : RowsAre n vs rs) (i : Nat) : RowsAre n (vs.drop i) (rs.drop i) := by
  induction h generalizing i with
  | nil => simp; exact .nil
  | cons h r ih =>
    cases i with
    | zero => exact .cons h r
    | succ i => exact ih i
theorem heap_list {h₀ h : Heap} {L l : Addr} {news : List (Addr × Obj)} {vs : List Value} {n : Nat} (N : News h₀ L h news) (hm : (l, listOf vs.toArray n) ∈ news) : h.IsList l vs.toArray := ⟨_, (N _ hm).1, rfl, n, rfl⟩

/-- a turn's end: what stood in the ledger stands -/
inductive RowEnd (h₀ : Heap) (L : Addr) (need : List (Addr × Obj)) (J : (Str → Option Value) → Prop) (s s₂ : Shared) : Prop
  | mk (h' : _) (tk' : _) (m' : _) (news' : _) (q0 : s₂ = { s with heap := h', toks := tk' }) (q1 : Fr h₀ L h' m') (q2 : News h₀ L h' news') (q3 : (∀ p ∈ need, p ∈ news')) (q4 : J m') : RowEnd h₀ L need J s s₂
theorem RowEnd.intro {h₀ h' : Heap} {L : Addr} {need news' : List (Addr × Obj)} {J : (Str → Option Value) → Prop} {s : Shared} {m' : Str → Option Value} {tk' : Nat}
    (F : Fr h₀ L h' m') (N : News h₀ L h' news') (hn : ∀ p ∈ need, p ∈ news') (hj : J m') : RowEnd h₀ L need J s { s with heap := h', toks := tk' } := ⟨h', tk', m', news', rfl, F, N, hn, hj⟩
section
variable {prog : Program} {w : World} {A : Around} {E : Value → Shared → Prop} {s : Shared} {env : Env} {h₀ : Heap} {news : List (Addr × Obj)} {m₀ : Str → Option Value}
/-- for x, y in rows: the list stands in the ledger; the turn leaves the ledger as it is -/
theorem For_rows {x y z : Str} {px py tp pl pos : Pos} {kk : Nat} {body : List Stmt} {Q : Flow → Shared → Prop} {l : Addr} {vs : List Value} {nn : Nat} {rows : List Row}
    (J : Nat → (Str → Option Value) → Prop)
    (hx : env.kindOf x = some .local) (hy : env.kindOf y = some .local)
    (hp : (env.scope.kind == .class || (env.scope.kind == .module && env.locals != env.globals)) = false) (hh : A.handled = none)
    (F : Fr h₀ env.locals s.heap m₀) (N : News h₀ env.locals s.heap news) (hl : (l, listOf vs.toArray nn) ∈ news) (hr : RowsAre news vs rows)
    (hz : wpAny (model prog w) A (eval (.Name z pl) env) (fun v s₁ => v = .ref l ∧ s₁ = s) E s)
    (h0 : J 0 m₀)
    (turn : ∀ i r t u m₁ h tk I oI, rows[i]? = some r → J i m₁ → Fr h₀ env.locals h (fun q => if q = y then some (.int r.2 u) else if q = x then some (.int r.1 t) else m₁ q) →
      News h₀ env.locals h ((I, oI) :: news) → (∀ p ∈ news, p.1 ≠ I) →
      wpAny (model prog w) A (execs body env) (fun f s₂ => match f with
        | .ret v => Q (.ret v) s₂
        | .brk => Q .next s₂
        | _ => RowEnd h₀ env.locals ((I, oI) :: news) (J (i + 1)) s s₂) E { s with heap := h, toks := tk })
    (done : ∀ m₁ h tk, J rows.length m₁ → Fr h₀ env.locals h m₁ → News h₀ env.locals h news → Q .next { s with heap := h, toks := tk })
    (hE : PassesOwn (model prog w) A env E) :
    wpAny (model prog w) A (exec (.For (.Tuple [.Name x px, .Name y py] kk tp) (.Name z pl) body [] pos) env) Q E s := by
  have hol : s.heap.get? l = some (listOf vs.toArray nn) := (N _ hl).1
  have hls : s.heap.IsList l vs.toArray := heap_list N hl
  have hne : l ≠ s.heap.objs.size := Nat.ne_of_lt (Heap.lt_size hol)
  refine wpAny_For (wpAny_mono hz (fun v s₁ hv => ?_) fun _ _ e => e) (fun _ => rfl)
  obtain ⟨rfl, rfl⟩ := hv
  refine wpAny_pyIter_list hls ?_
  have W := Walks.list (prog := prog) (w := w) hh s₁.heap.objs.size l hne vs.toArray
  have hI₀ : h₀.get? s₁.heap.objs.size = none := next_is_new F
  have hLI : env.locals ≠ s₁.heap.objs.size := Nat.ne_of_lt F.ns.lt
  have hNI : ∀ p ∈ news, p.1 ≠ s₁.heap.objs.size := fun p hp => Nat.ne_of_lt (Heap.lt_size (N p hp).1)
  have hlen : vs.toArray.size = rows.length := by rw [List.size_toArray, hr.length]
  refine codeAny_forLoop_any
    (fun k s' => ∃ h' tk m' i, s' = { s₁ with heap := h', toks := tk } ∧ (h'.IsListIter s₁.heap.objs.size l i ∧ h'.IsList l vs.toArray) ∧ Fr h₀ env.locals h' m' ∧ News h₀ env.locals h' news ∧ J i m' ∧ i ≤ rows.length ∧ k = rows.length + 1 - i) ?_ (rows.length + 1)
    ⟨_, _, m₀, 0, rfl, ⟨⟨_, Heap.get?_push_size _ rfl, rfl, rfl⟩, hls.at fun o e => Heap.get?_push_of_some _ e⟩, F.push _, (fun p hp => ⟨Heap.get?_push_of_some _ (N p hp).1, (N p hp).2⟩), h0, Nat.zero_le _, rfl⟩
  rintro k s' ⟨h', tk, m', i, rfl, hst, F', N', hJ, hi, rfl⟩
  by_cases hlt : i < rows.length
  · refine W.item i _ _ _ (by rw [hlen]; exact hlt) hst fun v h₁ tk₁ hP hst₁ hk₁ => ?_
    have hP' : vs[i]? = some v := by simpa using hP
    obtain ⟨r, hri, a, t, u, n, rfl, hm⟩ := hr.get hP'
    have up₁ : ∀ b o, b ≠ s₁.heap.objs.size → h'.get? b = some o → h₁.get? b = some o := fun b o hb e => hk₁ b o (by simpa using hb) e
    refine wpAny_letOwnedTupleGo_listiter (s := { s₁ with heap := h₁, toks := tk₁ }) hst₁.1 ?_
    have ht : h₁.IsTuple a #[.int r.1 t, .int r.2 u] := ⟨_, up₁ _ _ (hNI _ hm) (N' _ hm).1, rfl, n, rfl⟩
    have hn₁ : h₁.Ns env.locals m' := F'.ns.at' fun o e => up₁ _ o hLI e
    refine kcp_assign (s := { s₁ with heap := h₁, toks := tk₁ }) hh ht hx hy hp hn₁ fun h₂ tk₂ hn₂ hk₂ => ?_
    have up₂ : ∀ b o, b ≠ s₁.heap.objs.size → b ≠ env.locals → h'.get? b = some o → h₂.get? b = some o := fun b o h1 h2 e => hk₂ b o h2 (up₁ b o h1 e)
    obtain ⟨⟨oI, hoI, hcI, hdI⟩, hli⟩ := hst₁
    have hoI₂ : h₂.get? s₁.heap.objs.size = some oI := hk₂ _ _ (Ne.symm hLI) hoI
    have F₂ : Fr h₀ env.locals h₂ (fun q => if q = y then some (.int r.2 u) else if q = x then some (.int r.1 t) else m' q) :=
      ⟨hn₂, fun b o e => up₂ b o (fun q => by rw [q, hI₀] at e; cases e) (Nat.ne_of_lt (Nat.lt_of_lt_of_le (Heap.lt_size e) F.above)) (F'.keep b o e), F.above⟩
    have N₂ : News h₀ env.locals h₂ ((s₁.heap.objs.size, oI) :: news) := fun p hp => by
      rcases List.mem_cons.mp hp with rfl | hp
      · exact ⟨hoI₂, Ne.symm hLI, hI₀⟩
      · exact ⟨up₂ _ _ (hNI p hp) (N' p hp).2.1 (N' p hp).1, (N' p hp).2⟩
    refine wpAny_passesOwn hE (wpAny_mono (turn i r t u m' h₂ tk₂ _ oI hri hJ F₂ N₂ hNI) (fun f s₂ p => ?_) fun _ _ e => e)
    have fin : RowEnd h₀ env.locals ((s₁.heap.objs.size, oI) :: news) (J (i + 1)) s₁ s₂ →
        ∃ k', k' < rows.length + 1 - i ∧ ∃ h' tk m' i, s₂ = { s₁ with heap := h', toks := tk } ∧ (h'.IsListIter s₁.heap.objs.size l i ∧ h'.IsList l vs.toArray) ∧ Fr h₀ env.locals h' m' ∧ News h₀ env.locals h' news ∧ J i m' ∧ i ≤ rows.length ∧ k' = rows.length + 1 - i := by
      rintro ⟨h₃, tk₃, m₃, news₃, rfl, F₃, N₃, hs₃, hJ₃⟩
      have N₃' : News h₀ env.locals h₃ news := fun p hp => N₃ p (hs₃ p (.tail _ hp))
      exact ⟨rows.length + 1 - (i + 1), by omega, h₃, tk₃, m₃, i + 1, rfl, ⟨⟨oI, (N₃ _ (hs₃ _ (.head _))).1, hcI, hdI⟩, heap_list N₃' hl⟩, F₃, N₃', hJ₃, hlt, rfl⟩
    cases f with
    | ret v => exact p
    | brk => exact p
    | next => exact fin p
    | cont => exact fin p
  · have hin : i = rows.length := by omega
    subst hin
    refine W.done _ _ _ (by rw [hlen]; exact hst) fun h₁ tk₁ hk₁ => wpAny_execs_nil ?_
    have up₁ : ∀ b o, b ≠ s₁.heap.objs.size → h'.get? b = some o → h₁.get? b = some o := fun b o hb e => hk₁ b o (by simpa using hb) e
    exact done m' h₁ tk₁ hJ ⟨F'.ns.at' fun o e => up₁ _ o hLI e, fun b o e => up₁ b o (fun q => by rw [q, hI₀] at e; cases e) (F'.keep b o e), F.above⟩
      fun p hp => ⟨up₁ _ _ (hNI p hp) (N' p hp).1, (N' p hp).2⟩
end
/-- what is known of a frame's names -/
def seen : List (Str × Value) → (Str → Option Value) → Str → Option Value
  | [], m => m
  | p :: r, m => fun z => if z = p.1 then some p.2 else seen r m z
theorem seen_eq {m : Str → Option Value} : ∀ {ps : List (Str × Value)}, (∀ p ∈ ps, m p.1 = some p.2) → m = seen ps m
  | [], _ => rfl
  | p :: r, h => by
    have ih := seen_eq (ps := r) fun q hq => h q (.tail _ hq)
    funext z
    show m z = if z = p.1 then some p.2 else seen r m z
    by_cases hz : z = p.1
    · rw [if_pos hz, hz]; exact h p (.head _)
    · rw [if_neg hz, ← ih]
theorem Fr.see {h₀ h : Heap} {L : Addr} {m : Str → Option Value} (F : Fr h₀ L h m) (ps : List (Str × Value)) (e : ∀ p ∈ ps, m p.1 = some p.2) : Fr h₀ L h (seen ps m) := by
  rw [← seen_eq e]; exact F
theorem Fr.see2 {h₀ h : Heap} {L : Addr} {m : Str → Option Value} {x y : Str} {v w : Value} (F : Fr h₀ L h (fun q => if q = y then some w else if q = x then some v else m q)) (ps : List (Str × Value)) (e : ∀ p ∈ ps, m p.1 = some p.2) :
    Fr h₀ L h (fun q => if q = y then some w else if q = x then some v else seen ps m q) := by
  rw [← seen_eq e]; exact F
theorem Fr.see1 {h₀ h : Heap} {L : Addr} {m : Str → Option Value} {x : Str} {v : Value} (F : Fr h₀ L h (fun q => if q = x then some v else m q)) (ps : List (Str × Value)) (e : ∀ p ∈ ps, m p.1 = some p.2) :
    Fr h₀ L h (fun q => if q = x then some v else seen ps m q) := by
  rw [← seen_eq e]; exact F
end
section
open Lean PySem PySem.Calls PySem.W PyProof.Rows PyProof.V PySem.Spec PyProof.Rows.LCg
def Stop (P : Prop) : Prop := P
theorem Stop.out {P : Prop} (h : Stop P) : P := h
theorem ints_snoc {vs : List Value} {ns : List Int} {i : Int} {t : Tok} (h : IntsAre vs ns) : IntsAre (vs ++ [.int i t]) (ns ++ [i]) := by
  induction h with
  | nil => exact .cons _ _ .nil
  | cons _ _ _ ih => exact .cons _ _ ih
section
variable {prog : Program} {w : World} {A : Around} {E : Value → Shared → Prop} {s : Shared} {env : Env} {h₀ : Heap} {L : Addr} {news : List (Addr × Obj)} {m : Str → Option Value}
def RowVal (h₀ : Heap) (L : Addr) (m : Str → Option Value) (led : List (Addr × Obj)) (s : Shared) (k : Int) (y : Value) (s₄ : Shared) : Prop :=
  (∃ t', y = .int k t') ∧ ∃ h' tk', s₄ = { s with heap := h', toks := tk' } ∧ Fr h₀ L h' m ∧ News h₀ L h' led
theorem RowVal.intro {h₀ h' : Heap} {L : Addr} {m : Str → Option Value} {led : List (Addr × Obj)} {s : Shared} {k : Int} {t' : Tok} {tk' : Nat} (F : Fr h₀ L h' m) (N : News h₀ L h' led) :
    RowVal h₀ L m led s k (.int k t') { s with heap := h', toks := tk' } := ⟨⟨t', rfl⟩, h', tk', rfl, F, N⟩
def RowTest (prog : Program) (w : World) (A : Around) (h₀ : Heap) (L : Addr) (m : Str → Option Value) (led : List (Addr × Obj)) (s : Shared) (E' : Value → Shared → Prop) (elt : PySem.Expr) (cenv : Env) (b : Bool) (k : Int) (ok : Bool) (s₃ : Shared) : Prop :=
  ok = b ∧ ∃ h' tk', s₃ = { s with heap := h', toks := tk' } ∧ Fr h₀ L h' m ∧ News h₀ L h' led ∧ (ok = true → wpAny (model prog w) A (eval elt cenv) (RowVal h₀ L m led s k) E' s₃)
theorem RowTest.intro {prog : Program} {w : World} {A : Around} {h₀ h' : Heap} {L : Addr} {m : Str → Option Value} {led : List (Addr × Obj)} {s : Shared} {E' : Value → Shared → Prop} {elt : PySem.Expr} {cenv : Env} {b ok : Bool} {k : Int} {tk' : Nat}
    (e : ok = b) (F : Fr h₀ L h' m) (N : News h₀ L h' led) (h : ok = true → wpAny (model prog w) A (eval elt cenv) (RowVal h₀ L m led s k) E' { s with heap := h', toks := tk' }) :
    RowTest prog w A h₀ L m led s E' elt cenv b k ok { s with heap := h', toks := tk' } := ⟨e, h', tk', rfl, F, N, h⟩
/-- one row's test and value, in the comprehension's own frame -/
def OneRow (prog : Program) (w : World) (A : Around) (h₀ : Heap) (L : Addr) (m : Str → Option Value) (env : Env) (scope : Scope) (cl : List (Str × Addr)) (c elt : PySem.Expr) (a b : Str) (news : List (Addr × Obj)) (s : Shared) (tst : Row → Bool) (val : Row → Int) : Prop :=
  ∀ (r : Row) (t u : Tok) (I : Addr) (oI : Obj) (C : Addr) (oC : Obj) (D : Addr) (oD : Obj) (m₂ : Str → Option Value) (h : Heap) (tk : Nat) (E' : Value → Shared → Prop), NsObj oC m₂ → m₂ a = some (.int r.1 t) → m₂ b = some (.int r.2 u) → Fr h₀ L h m →
    News h₀ L h ((I, oI) :: (C, oC) :: (D, oD) :: news) →
    wpAny (model prog w) A (isTrue c (compEnvC scope cl C env) (eval c (compEnvC scope cl C env))) (RowTest prog w A h₀ L m ((I, oI) :: (C, oC) :: (D, oD) :: news) s E' elt (compEnvC scope cl C env) (tst r) (val r))
      E' { s with heap := h, toks := tk }
/-- what the source of the comprehension gives -/
inductive CompRows (prog : Program) (w : World) (A : Around) (h₀ : Heap) (L : Addr) (m : Str → Option Value) (env : Env) (scope : Scope) (cl : List (Str × Addr)) (c elt : PySem.Expr) (a b : Str) (tst : Row → Bool) (val : Row → Int) (Q : Value → Shared → Prop) (v : Value) (s₁ : Shared) : Prop
  | mk (l : _) (vs : _) (nn : _) (rows : _) (src : _) (news : _) (q0 : v = .ref l) (q1 : Fr h₀ L s₁.heap m) (q2 : News h₀ L s₁.heap news) (q3 : (l, listOf vs.toArray nn) ∈ news) (q4 : RowsAre src vs rows) (q5 : (∀ p ∈ src, p ∈ news)) (q6 : rows.length ≤ sizeLine) (q7 : (∀ g, OneRow prog w A h₀ L m env scope cl c elt a b news { s₁ with heap := g } tst val)) (q8 : ∀ D ys h' tk', IntsAre ys ((rows.filter tst).map val) → Fr h₀ L h' m → News h₀ L h' ((D, lst ys) :: news) → (∀ p ∈ news, p.1 ≠ D) → Q (.ref D) { s₁ with heap := h', toks := tk' }) : CompRows prog w A h₀ L m env scope cl c elt a b tst val Q v s₁
theorem CompRows.intro {prog : Program} {w : World} {A : Around} {h₀ : Heap} {L : Addr} {m : Str → Option Value} {env : Env} {scope : Scope} {cl : List (Str × Addr)} {c elt : PySem.Expr} {a b : Str} {tst : Row → Bool} {val : Row → Int} {Q : Value → Shared → Prop} {s₁ : Shared}
    {l : Addr} {vs : List Value} {nn : Nat} {rows : List Row} {src news : List (Addr × Obj)} (F : Fr h₀ L s₁.heap m) (N : News h₀ L s₁.heap news) (hl : (l, listOf vs.toArray nn) ∈ news) (hr : RowsAre src vs rows) (hs : ∀ p ∈ src, p ∈ news) (hz : rows.length ≤ sizeLine)
    (one : ∀ g, OneRow prog w A h₀ L m env scope cl c elt a b news { s₁ with heap := g } tst val)
    (fin : ∀ D ys h' tk', IntsAre ys ((rows.filter tst).map val) → Fr h₀ L h' m → News h₀ L h' ((D, lst ys) :: news) → (∀ p ∈ news, p.1 ≠ D) → Q (.ref D) { s₁ with heap := h', toks := tk' }) :
    CompRows prog w A h₀ L m env scope cl c elt a b tst val Q (.ref l) s₁ := ⟨l, vs, nn, rows, src, news, rfl, F, N, hl, hr, hs, hz, one, fin⟩

/-- [elt for a, b in rows if c] -/
theorem comp_rows {elt iter c : PySem.Expr} {a b : Str} {pa pb tp : Pos} {kk : Nat} {scope : Scope} {cl : List (Str × Addr)} {pos : Pos} {Q : Value → Shared → Prop} (tst : Row → Bool) (val : Row → Int) (_F₀ : Fr h₀ L s.heap m)
    (hclos : closureFor scope env = pure cl) (hcell : ∀ y ∈ scope.names, y.2 ≠ .cell) (hkind : scope.kind = .function)
    (hnames : ∀ y ∈ scope.names, y.2 = .local → scope.names.lookup y.1 = some .local) (hxa : scope.names.lookup a = some .local) (hxb : scope.names.lookup b = some .local) (hab : ¬ a = b) (hh : A.handled = none)
    (h : wpAny (model prog w) A (eval iter env) (CompRows prog w A h₀ L m env scope cl c elt a b tst val Q) E s)
    (hs : ∀ x, foldedSetIterable iter env x = pure x := by intro _; rfl) :
    wpAny (model prog w) A (eval (.ListComp elt [⟨.Tuple [.Name a pa, .Name b pb] kk tp, iter, [c], 0⟩] scope pos) env) Q E s := by
  rw [eval_ListComp]
  refine wpAny_comprehension_free (use := none) rfl hs hclos hkind hnames (wpAny_mono h (fun xv s₁ h₁ => ?_) fun _ _ e => e)
  obtain ⟨l, vs, nn, rows, src, news, rfl, F, N, hl, hr, hsub, hsz, one, fin⟩ := h₁
  replace hr := hr.mono hsub
  have hol : s₁.heap.get? l = some (listOf vs.toArray nn) := (N _ hl).1
  refine wpAny_pyIter_list (heap_list N hl) ?_
  generalize hI : s₁.heap.objs.size = I
  have hlI : l ≠ I := hI ▸ Nat.ne_of_lt (Heap.lt_size hol)
  have hLI : L ≠ I := hI ▸ Nat.ne_of_lt F.ns.lt
  have hI₀ : h₀.get? I = none := hI ▸ next_is_new F
  have hNI : ∀ p ∈ news, p.1 ≠ I := fun p hp => hI ▸ Nat.ne_of_lt (Heap.lt_size (N p hp).1)
  have hlen : vs.toArray.size = rows.length := by rw [List.size_toArray, hr.length]
  generalize hH1 : s₁.heap.push { cls := .type "list_iterator", data := .fields #[.ref l, .int 0 0] } = H1
  have hH1s : H1.objs.size = I + 1 := by rw [← hH1, Heap.size_push, hI]
  have old1 : ∀ b o, s₁.heap.get? b = some o → H1.get? b = some o := fun b o e => hH1 ▸ Heap.get?_push_of_some _ e
  have hit1 : H1.get? I = some { cls := .type "list_iterator", data := .fields #[.ref l, .int 0 0] } := by rw [← hH1, ← hI]; exact Heap.get?_push_size _ rfl
  refine wpAny_newObj_type ?_
  dsimp only
  refine wpAny_newFunctionEnv hcell (by intro y hy; simp at hy) (fun h₁ hns₁ hsb₁ => ?_) hkind
  dsimp only at hns₁ hsb₁ ⊢
  generalize hD : H1.objs.size = D at hns₁ hsb₁ ⊢
  generalize hH2 : H1.push { cls := .type "list", dict := none, data := .seq ([] : List Value).toArray } = H2 at hns₁ hsb₁ ⊢
  have hH2s : H2.objs.size = D + 1 := by rw [← hH2, Heap.size_push, hD]
  generalize hC : H2.objs.size = C at hns₁ hsb₁ ⊢
  have eD : D = I + 1 := by rw [← hD, hH1s]
  have eC : C = D + 1 := by rw [← hC, hH2s]
  have hIC : I ≠ C := by rw [eC, eD]; exact Nat.ne_of_lt (by omega)
  have hID : I ≠ D := by rw [eD]; exact Nat.ne_of_lt (Nat.lt_succ_self _)
  have hDC : D ≠ C := by rw [eC]; exact Nat.ne_of_lt (Nat.lt_succ_self _)
  have ltI : ∀ b, b < s₁.heap.objs.size → b ≠ I ∧ b ≠ D ∧ b ≠ C := fun b hb => by
    rw [hI] at hb
    refine ⟨Nat.ne_of_lt hb, ?_, ?_⟩
    · rw [eD]; exact Nat.ne_of_lt (Nat.lt_succ_of_lt hb)
    · rw [eC, eD]; exact Nat.ne_of_lt (Nat.lt_succ_of_lt (Nat.lt_succ_of_lt hb))
  have old : ∀ b o, b ≠ C → H1.get? b = some o → h₁.get? b = some o := fun b o hb e => hsb₁.extBut b o hb (Heap.get?_push_of_some _ (hH2 ▸ Heap.get?_push_of_some _ e))
  have oldS : ∀ b o, s₁.heap.get? b = some o → h₁.get? b = some o := fun b o e => old b o (ltI b (Heap.lt_size e)).2.2 (old1 b o e)
  have fresh₀ : ∀ a, I ≤ a → h₀.get? a = none := fun a ha => by
    cases e : h₀.get? a with
    | none => rfl
    | some o' => exact absurd (Heap.lt_size (F.keep a o' e)) (Nat.not_lt.mpr (hI ▸ ha))
  have hD₀ : h₀.get? D = none := fresh₀ _ (by rw [eD]; exact Nat.le_succ _)
  have hC₀ : h₀.get? C = none := fresh₀ _ (by rw [eC, eD]; exact Nat.le_succ_of_le (Nat.le_succ _))
  have hLD : L ≠ D := (ltI L F.ns.lt).2.1
  have hLC : L ≠ C := (ltI L F.ns.lt).2.2
  have offN : ∀ p ∈ news, p.1 ≠ I ∧ p.1 ≠ D ∧ p.1 ≠ C := fun p hp => ltI _ (Heap.lt_size (N p hp).1)
  have hacc : h₁.get? D = some (lst []) := hsb₁.extBut _ _ hDC (Heap.get?_push_of_some _ (by rw [← hH2, ← hD]; exact Heap.get?_push_size _ rfl))
  have W := Walks.list (prog := prog) (w := w) hh I l hlI vs.toArray
  have loop : ∀ s₃ : Shared, s₃ = { s₁ with heap := h₁, toks := s₁.toks + ([] : List (Str × Value)).length } →
      codeAny (model prog w) A (.compLoop (.ListComp elt [⟨.Tuple [.Name a pa, .Name b pb] kk tp, iter, [c], 0⟩] scope pos) 0 (.ref I) (.ref D) (compEnvC scope cl C env))
        (compPost (model prog w) A E none Q (.ref D) C) s₃ := by
    rintro s₃ rfl
    refine kct_loop
      (fun k s' => ∃ h' tk i ys m', s' = { s₁ with heap := h', toks := tk } ∧ i ≤ rows.length ∧ k = rows.length + 1 - i ∧ ys.length ≤ i ∧ (h'.IsListIter I l i ∧ h'.IsList l vs.toArray) ∧ Fr h₀ L h' m ∧ h'.Ns C m' ∧
        News h₀ L h' ((D, lst ys) :: news) ∧ IntsAre ys (((rows.take i).filter tst).map val)) ?_ (rows.length + 1)
      ⟨h₁, _, 0, [], _, rfl, Nat.zero_le _, rfl, Nat.le_refl _, ⟨⟨_, old _ _ hIC hit1, rfl, rfl⟩, ⟨_, oldS _ _ hol, rfl, nn, rfl⟩⟩, F.keeps oldS, hns₁, fun p hp => ?_, .nil⟩
    · rintro k s' ⟨h', tk, i, ys, m', rfl, hi, rfl, hyl, hst, F', hn', N', hys⟩
      have hD' : h'.get? D = some (lst ys) := (N' _ (.head _)).1
      by_cases hlt : i < rows.length
      · refine W.item i _ _ _ (by rw [hlen]; exact hlt) hst fun v h₂ tk₂ hP hst₂ hk₂ => ?_
        have hP' : vs[i]? = some v := by simpa using hP
        obtain ⟨r, hri, ad, t, u, n, rfl, hm⟩ := hr.get hP'
        refine wpAny_letOwnedTupleGo_listiter (s := { s₁ with heap := h₂, toks := tk₂ }) hst₂.1 ?_
        have up₂ : ∀ c o, c ≠ I → h'.get? c = some o → h₂.get? c = some o := fun c o hc e => hk₂ c o (by simpa using hc) e
        have hT : h₂.IsTuple ad #[.int r.1 t, .int r.2 u] := ⟨_, up₂ _ _ (offN _ hm).1 (N' _ (.tail _ hm)).1, rfl, n, rfl⟩
        refine kcp_assign (s := { s₁ with heap := h₂, toks := tk₂ }) (env := compEnvC scope cl C env) hh hT (lookup_relabel_local hxa) (lookup_relabel_local hxb) (by simp [compEnvC, relabel, hkind]) (hn'.at' fun o e => up₂ _ o (Ne.symm hIC) e) fun h₄ tk₄ hn₄ hs₄ => ?_
        have up : ∀ c o, c ≠ I → c ≠ C → h'.get? c = some o → h₄.get? c = some o := fun c o h1 h2 e => hs₄ c o h2 (up₂ c o h1 e)
        obtain ⟨⟨oI, hoI, hcI, hdI⟩, hli⟩ := hst₂
        have heI : h₄.get? I = some oI := hs₄ _ _ hIC hoI
        obtain ⟨oC, heC, hoC⟩ := ns_obj hn₄
        have F₄ : Fr h₀ L h₄ m := ⟨F'.ns.at' fun o e => up _ o hLI hLC e, fun c o e => up c o (fun q => by rw [q, hI₀] at e; cases e) (fun q => by rw [q, hC₀] at e; cases e) (F'.keep c o e), F'.above⟩
        have N₄ : News h₀ L h₄ ((I, oI) :: (C, oC) :: (D, lst ys) :: news) := fun q hq => by
          rcases List.mem_cons.mp hq with rfl | hq
          · exact ⟨heI, Ne.symm hLI, hI₀⟩
          · rcases List.mem_cons.mp hq with rfl | hq
            · exact ⟨heC, Ne.symm hLC, hC₀⟩
            · have z := N' q hq
              refine ⟨up _ _ ?_ ?_ z.1, z.2⟩
              · rcases List.mem_cons.mp hq with rfl | hq
                · exact Ne.symm hID
                · exact (offN q hq).1
              · rcases List.mem_cons.mp hq with rfl | hq
                · exact hDC
                · exact (offN q hq).2.2
        have hnext : rows.take (i + 1) = rows.take i ++ [r] := take_next hri
        have step : ∀ (ys' : List Value) (h₅ : Heap) (tk₅ : Nat), ys'.length ≤ i + 1 → Fr h₀ L h₅ m → News h₀ L h₅ ((I, oI) :: (C, oC) :: (D, lst ys') :: news) → IntsAre ys' (((rows.take (i + 1)).filter tst).map val) →
            ∃ q', q' < rows.length + 1 - i ∧ ∃ h' tk i ys m', ({ s₁ with heap := h₅, toks := tk₅ } : Shared) = { s₁ with heap := h', toks := tk } ∧ i ≤ rows.length ∧ q' = rows.length + 1 - i ∧ ys.length ≤ i ∧ (h'.IsListIter I l i ∧ h'.IsList l vs.toArray) ∧ Fr h₀ L h' m ∧ h'.Ns C m' ∧
              News h₀ L h' ((D, lst ys) :: news) ∧ IntsAre ys (((rows.take i).filter tst).map val) := by
          intro ys' h₅ tk₅ hl' F₅ N₅ hys'
          have zI := (N₅ (I, oI) (.head _)).1
          have zC := (N₅ (C, oC) (.tail _ (.head _))).1
          have zn : News h₀ L h₅ ((D, lst ys') :: news) := fun q hq => N₅ q (.tail _ (.tail _ hq))
          exact ⟨rows.length + 1 - (i + 1), by omega, h₅, tk₅, i + 1, ys', _, rfl, hlt, rfl, hl', ⟨⟨oI, zI, hcI, hdI⟩, heap_list zn (.tail _ hl)⟩, F₅, hoC.ns zC, zn, hys'⟩
        refine wpAny_mono (one h₄ r t u I oI C oC D (lst ys) _ h₄ tk₄ _ hoC (by simp [hab]) (by simp) F₄ N₄) (fun ok s₅ h₅ => ?_) fun _ _ e => e
        obtain ⟨hok, h₅, tk₅, rfl, F₅, N₅, hv⟩ := h₅
        cases ok with
        | false =>
          simp only [Bool.false_eq_true, if_false]
          refine step ys h₅ tk₅ (Nat.le_succ_of_le hyl) F₅ N₅ ?_
          rw [hnext, List.filter_append, List.map_append]
          simpa [← hok] using hys
        | true =>
          simp only [if_true]
          refine wpAny_mono (hv rfl) (fun y s₆ h₆ => ?_) fun _ _ e => e
          obtain ⟨⟨ty, rfl⟩, h₆, tk₆, rfl, F₆, N₆⟩ := h₆
          have zI := (N₆ (I, oI) (.head _)).1
          have zC := (N₆ (C, oC) (.tail _ (.head _))).1
          have zD := (N₆ (D, lst ys) (.tail _ (.tail _ (.head _)))).1
          have N₆' : News h₀ L h₆ news := fun q hq => N₆ q (.tail _ (.tail _ (.tail _ hq)))
          refine append_at (s := { s₁ with heap := h₆, toks := tk₆ }) (hsz := by show ys.toArray.size ≤ sizeLine; rw [List.size_toArray]; exact Nat.le_trans hyl (Nat.le_trans hi hsz)) zD fun h₇ hs₇ hD₇ => ?_
          refine step (ys ++ [.int (val r) ty]) h₇ _ (by rw [List.length_append, List.length_singleton]; exact Nat.succ_le_succ hyl) (F₆.change hs₇ (Ne.symm hLD) hD₀) (fun q hq => ?_) ?_
          · rcases List.mem_cons.mp hq with rfl | hq
            · exact ⟨hs₇.extBut I oI hID zI, Ne.symm hLI, hI₀⟩
            rcases List.mem_cons.mp hq with rfl | hq
            · exact ⟨hs₇.extBut _ oC (Ne.symm hDC) zC, Ne.symm hLC, hC₀⟩
            rcases List.mem_cons.mp hq with rfl | hq
            · exact ⟨hD₇.trans (congrArg some (lst_snoc ys _)), Ne.symm hLD, hD₀⟩
            · exact ⟨hs₇.extBut _ _ (offN q hq).2.1 (N₆' q hq).1, (N₆' q hq).2⟩
          · rw [hnext, List.filter_append, List.map_append]
            simpa [← hok] using ints_snoc hys
      · have hin : i = rows.length := Nat.le_antisymm hi (Nat.not_lt.mp hlt)
        subst hin
        refine W.done _ _ _ (by rw [hlen]; exact hst) fun h₂ tk₂ hk₂ => ?_
        rw [List.take_length] at hys
        have F₂ := fr_but F' hk₂ hLI hI₀
        have N₂ : News h₀ L h₂ ((D, lst ys) :: news) := news_but N' hk₂ fun p hp => by
          rcases List.mem_cons.mp hp with rfl | hp
          · exact Ne.symm hID
          · exact (offN p hp).1
        refine ⟨_, hn'.at' fun o e => hk₂ _ o (by simpa using Ne.symm hIC) e, fun h'' hs'' => ?_⟩
        refine fin D ys h'' tk₂ hys (F₂.change hs'' (Ne.symm hLC) hC₀) (fun p hp => ?_) fun p hp => (offN p hp).2.1
        refine ⟨hs''.extBut _ _ ?_ (N₂ p hp).1, (N₂ p hp).2⟩
        rcases List.mem_cons.mp hp with rfl | hp
        · exact hDC
        · exact (offN p hp).2.2
    · rcases List.mem_cons.mp hp with rfl | hp
      · exact ⟨hacc, Ne.symm hLD, hD₀⟩
      · exact ⟨oldS _ _ (N p hp).1, (N p hp).2⟩
  exact codeAny_compStart_list (loop _ rfl) (wpAny_pyIter_listiter ⟨_, old _ _ hIC hit1, rfl, rfl⟩ (loop _ rfl))
end
end
section
open Lean PySem PySem.Calls PySem.W PyProof.Rows PyProof.V PySem.Spec PyProof.Rows.LCg
theorem mem_of {p : Addr × Obj} {l : List (Addr × Obj)} (h : p ∈ l) : List.Mem p l := h
theorem mem_left {p : Addr × Obj} {l r : List (Addr × Obj)} (h : p ∈ l) : p ∈ l ++ r := List.mem_append.mpr (.inl h)
theorem mem_right {p : Addr × Obj} {l r : List (Addr × Obj)} (h : p ∈ r) : p ∈ l ++ r := List.mem_append.mpr (.inr h)
theorem off_app {l r : List (Addr × Obj)} {c : Addr} (h : ∀ p ∈ l, p.1 ≠ c) (k : ∀ p ∈ r, p.1 ≠ c) : ∀ p ∈ l ++ r, p.1 ≠ c := fun p hp => (List.mem_append.mp hp).elim (h p) (k p)
theorem cell_off {news : List (Addr × Obj)} {L' : Addr} (l1 : ∀ p ∈ news, p.1 < L') : (∀ p ∈ news, p.1 ≠ L' + 1) ∧ ∀ p ∈ news, p.1 ≠ L' + 1 + 1 :=
  ⟨fun p hp => Nat.ne_of_lt (Nat.lt_succ_of_lt (l1 p hp)), fun p hp => Nat.ne_of_lt (Nat.lt_succ_of_lt (Nat.lt_succ_of_lt (l1 p hp)))⟩
theorem mem_pre2 {p a b : Addr × Obj} {l r : List (Addr × Obj)} (h : p ∈ a :: b :: l) : p ∈ a :: b :: (l ++ r) := by
  rcases List.mem_cons.mp h with h | h
  · exact h ▸ .head _
  · rcases List.mem_cons.mp h with h | h
    · exact h ▸ .tail _ (.head _)
    · exact .tail _ (.tail _ (mem_left h))
theorem named {α : Type} {o : Option α} {r : α} (h : o = some r) : ∃ r0, o = some r0 ∧ r0 = r := ⟨r, h, rfl⟩
section
variable {prog : Program} {w : World} {A : Around} {E : Value → Shared → Prop} {s : Shared} {env : Env} {h₀ : Heap} {L : Addr} {news led : List (Addr × Obj)} {m : Str → Option Value}
theorem len_rows {l : Addr} {vs : List Value} {n : Nat} {rows : List Row} {Q : Value → Shared → Prop} (N : News h₀ L s.heap led) (hm : (l, listOf vs.toArray n) ∈ led) (hr : RowsAre news vs rows) (hb : rows.length ≤ 1000)
    (h : Q (.int (rows.length : Int) (s.toks + 1)) { s with toks := s.toks + 1 + 1 }) : wpAny (model prog w) A (call (.builtin "len") [.ref l]) Q E s := by
  have e : vs.toArray.size = rows.length := by rw [List.size_toArray, hr.length]
  exact len_list (heap_list N hm) (by rw [e]; omega) (by rw [e]; exact h)
theorem row_item {value slice : PySem.Expr} {l : Addr} {vs : List Value} {n : Nat} {rows : List Row} {k : Int} {u : Tok} {Q : Value → Shared → Prop} (N : News h₀ L s.heap led) (hm : (l, listOf vs.toArray n) ∈ led) (hr : RowsAre news vs rows)
    (h0 : 0 ≤ k) (h1 : k < (rows.length : Int)) (hfit : k < 2 ^ 63)
    (h : ∀ (a : Addr) (t u : Tok) (n : Nat) (r : Row), rows[k.toNat]? = some r → (a, ({ cls := .type "tuple", data := .seq #[.int r.1 t, .int r.2 u] n } : Obj)) ∈ news → Q (.ref a) s)
    (hs : subscripted slice false (.ref l) (.int k u) = operate [.ref l, .int k u] (getItem (.ref l) (.int k u)) := by with_unfolding_all rfl) :
    wpAny (model prog w) A (subscriptTail value slice (.ref l) (.int k u)) Q E s := by
  have hl := heap_list N hm
  have hk : k.toNat < vs.length := by rw [hr.length]; omega
  have hv : vs[k.toNat]? = some vs[k.toNat] := List.getElem?_eq_getElem hk
  obtain ⟨r, hri, a, t, u, n, e, hmem⟩ := hr.get hv
  exact tail_any hl.typeIs slot_list_getitem.lookup (wpAny_getItem_list hl h0 hfit (by simpa using hv) (e ▸ h a t u n r hri hmem)) hs
theorem rows_slice {value slice : PySem.Expr} {l : Addr} {vs : List Value} {n : Nat} {rows : List Row} {k : Int} {u : Tok} {Q : Value → Shared → Prop} (F : Fr h₀ L s.heap m) (N : News h₀ L s.heap led) (hm : (l, listOf vs.toArray n) ∈ led) (hr : RowsAre news vs rows)
    (h0 : 0 ≤ k) (hb : rows.length ≤ 1000)
    (h : ∀ D ws h', Fr h₀ L h' m → News h₀ L h' ((D, listOf (List.toArray ws) 0) :: led) → (∀ p ∈ led, p.1 < D) → RowsAre news ws (rows.drop k.toNat) → Q (.ref D) { s with heap := h' })
    (hs : subscripted slice false (.ref l) (.ref s.heap.objs.size) = operate [.ref s.heap.objs.size, .ref l] (getItem (.ref l) (.ref s.heap.objs.size)) := by with_unfolding_all rfl) (ht : ∀ r, letTemporaryGo value (.ref l) r = pure () := by intro _; with_unfolding_all rfl) :
    wpAny (model prog w) A (subscriptTail value slice (.ref l) (.ref s.heap.objs.size)) Q E { s with heap := s.heap.push { cls := .type "slice", data := .fields #[.int k u, .none, .none] } } := by
  have hz : vs.toArray.size ≤ sizeLine := by rw [List.size_toArray, hr.length, sizeLine_eq]; omega
  refine kmk_slice F N (heap_list N hm) (lo := some k) (hi := none) (.int k u) .none (fun D h' F' N' l1 => ?_) hs ht hz
  have e : slicePick vs.toArray (some k) none none = (vs.drop k.toNat).toArray := by
    have := slicePick_from' vs.toArray k.toNat
    rwa [show ((k.toNat : Nat) : Int) = k by omega] at this
  rw [e] at N'
  exact h D _ h' F' N' l1 (hr.drop _)
/-- for x in range(n): any word over the turn's number, the frame and the ledger -/
theorem iter_rangeJ {x : Str} {body : List Stmt} {Q : Flow → Shared → Prop} {r : Addr} {b₀ : Int} {t₀ u₀ v₀ : Tok} {n : Nat} {m₀ : Str → Option Value} (J : Nat → (Str → Option Value) → List (Addr × Obj) → Prop)
    (hh : A.handled = none) (hr : IsRange s.heap r 0 b₀ 1 t₀ u₀ v₀) (hb : b₀ = (n : Int)) (hn : n ≤ 1000) (F : Fr h₀ env.locals s.heap m₀) (N : News h₀ env.locals s.heap news) (hj : J 0 m₀ news)
    (turn : ∀ i t m₁ nx h tk own, i < n → OwnOff own (nx.map (·.1)) → J i m₁ nx → Fr h₀ env.locals h (fun y => if y = x then some (.int (i : Int) t) else m₁ y) → News h₀ env.locals h (nx ++ own) →
      wpAny (model prog w) A (execs body env) (InvPostG h₀ env.locals (J (i + 1)) own { s with heap := h, toks := tk } Q) E { s with heap := h, toks := tk })
    (done : ∀ m₁ nx h tk, J n m₁ nx → Fr h₀ env.locals h m₁ → News h₀ env.locals h nx → Q .next { s with heap := h, toks := tk }) :
    wpAny (model prog w) A (pyIter (.ref r)) (fun it s₂ => LoopAtV prog w A h₀ env x body Q E it s₂) E s := by
  subst hb
  refine wpAny_pyIter_range hr (small_one (by omega) (by omega) (by omega) (by omega)) ?_
  have W : Walks prog w A s.heap.objs.size [s.heap.objs.size] [s.heap.objs.size] n (fun i v => i < n ∧ ∃ t, v = .int (0 + i * 1) t)
      (fun i h => IsRangeIter h s.heap.objs.size (0 + (i : Nat) * 1) ((n : Int) - (i : Nat)) 1) := (Walks.range hh _ 0 1 n).bound
  refine kdr_loop J W (fun _ h => h) (fun _ h => h) (fun i h st b hb => ?_) ?_ ?_ ?_ (by show IsRangeIter _ _ _ _ _; rw [show Builtin.Range.rangeSize 0 (n : Int) 1 = (n : Int) from by first | exact rangeSize_nat _ _ | (rw [rangeSize_nat]; omega) | (rw [rangeSize_nat])]; simpa using Heap.get?_push_size _ rfl) (F.push _) (fun p hp => ⟨Heap.get?_push_of_some _ (N p hp).1, (N p hp).2⟩) hj ?_ ?_
  · rw [List.mem_singleton.mp hb]; exact ⟨_, st⟩
  · intro hm
    exact absurd F.ns.lt ((List.mem_singleton.mp hm) ▸ Nat.lt_irrefl _)
  · intro b hb
    rw [List.mem_singleton.mp hb]
    exact next_is_new F
  · intro p hp hI
    exact absurd (Heap.lt_size (N p hp).1) ((List.mem_singleton.mp hI) ▸ Nat.lt_irrefl _)
  · rintro i v m₁ nx h tk own hi ⟨_, t, rfl⟩ ho hJ F₁ N₁
    have e : (0 + (i : Int) * 1) = (i : Int) := by omega
    rw [e] at F₁
    exact turn i t m₁ nx h tk own hi ho hJ F₁ N₁
  · exact done
end
end
section
open Lean PySem PySem.Calls PySem.W PyProof.Rows PyProof.V PySem.Spec PyProof.Rows.LCg
section
variable {prog : Program} {w : World} {A : Around} {E : Value → Shared → Prop} {s : Shared} {K : Frag} {x C L : Addr} {h₀ : Heap} {m : Str → Option Value} {Q : Value → Shared → Prop}
theorem type_own {o : Obj} (ho : s.heap.get? x = some o) (hc : o.cls = .ref C) (hq : Q (.ref C) s) : wpAny (model prog w) A (call (.type "type") [.ref x]) Q E s := by
  obtain ⟨hh, g, d, t, os⟩ := s
  exact call_type_obj ho (by rw [hc]; rfl) (by rw [hc]; exact hq)
theorem issub_nested {M : Model} {Q : Fin → Shared → Prop} {dep : Int} {tk : Tok} (X : K.In s.heap) (hc : isClsIn K C = true) (hm : mroIn K C (.type "tuple") = some true) (h : Q (.done (.ret (.bool true))) s) :
    wpAny M A (Builtin.«issubclass.nested» ⟨[.ref C, .type "tuple", .int dep tk], []⟩) Q E s := by
  obtain ⟨hh, g, d, tt, os⟩ := s
  unfold Builtin.«issubclass.nested»
  have LT : Looks M hh (typeOf (.type "tuple")) (.type "type") := Looks.of_pure (kitMeta_of (by decide +kernel))
  have LM := looks_mroIn (M := M) X hm
  unfold isClsIn clsIn at hc
  split at hc
  · rename_i ho
    refine wpAny_bind (LT.at ?_)
    rw [if_pos (by decide)]
    k_delta "plainIsSubclass"
    unfold isType
    repeat lk
    refine nd_load (X _ _ ho) ?_
    repeat lk
    exact h
  · cases hc
theorem call_issub {Q : Value → Shared → Prop} (X : K.In s.heap) (hc : isClsIn K C = true) (hm : mroIn K C (.type "tuple") = some true) (h : Q (.bool true) s) :
    wpAny (model prog w) A (call (.builtin "issubclass") [.ref C, .type "tuple"]) Q E s :=
  call_issubclass (S := fun _ R s => K.In s.heap ∧ R (.ok (.ret (.bool true))) s) (fun _ _ _ _ _ hs => issubclass_outer (issub_nested hs.1 hc hm hs.2)) ⟨X, h⟩
theorem call_tup_item {ox : Obj} {items : Array Value} {n k : Nat} {i : Int} {u : Tok} {y : Value} {Q : Value → Shared → Prop} (X : K.In s.heap) (ho : s.heap.get? x = some ox) (hc : ox.cls = .ref C) (hd : ox.data = .seq items n) (hm : mroIn K C (.type "tuple") = some true)
    (hlo : -2 ^ 63 ≤ i) (hhi : i < 2 ^ 63) (hk : seqIndex? i items.size = some k) (hy : items[k]? = some y) (h : Q y s) :
    wpAny (model prog w) A (call (.builtin "tuple.__getitem__") [.ref x, .int i u]) Q E s := by
  have LT : Looks (model prog w) s.heap (typeOf (.ref x)) (.ref C) := hc ▸ (Looks.ld ho).andThen .now
  refine wpAny_call (codeAny_call_builtin slot_tuple_getitem.plain entry_tuple_getitem ?_)
  refine @check_slot (model prog w) _ _ s "tuple.__getitem__" "tuple" "__getitem__" (.ref x) [.int i u] [] _ (by decide +kernel) (by decide +kernel) (LT.andThen (looks_mroIn X hm)) (args_tuple_getitem _ _) ?_
  obtain ⟨hp, g, d, tk, os⟩ := s
  obtain ⟨oc, od, oda, osl⟩ := ox
  dsimp only at hc hd ho
  subst hc hd
  have f1 := AutoSeq1.idx_int
  unfold Builtin.«tuple.__getitem__»
  wp_walk using wpAny_loadPart' ho
  simp only [hk, hy, Option.bind_some]
  refine wpAny_ite_false (by simp; omega) ?_
  wp_walk
  exact h
end
end
section
open Lean PySem PySem.Calls PySem.W PyProof.Rows PyProof.V PySem.Spec PyProof.Rows.LCg Builtin Builtin.ObjectAttr
section
variable {prog : Program} {w : World} {A : Around} {E : Value → Shared → Prop} {s : Shared} {K : Frag} {x C L f : Addr} {ox : Obj} {od : Option Obj} {name : Str} {expr : Bool} {Q : Value → Shared → Prop}
theorem tup_attr {a : Value} (X : K.In s.heap) (I : InstAt s.heap x ox C od) (hga : findIn K (.ref C) "__getattribute__" = some (some (.builtin "tuple.__getattribute__"))) (hm : mroIn K C (.type "tuple") = some true)
    (hf : findObj K C od name = some (.bind (.ref f) a)) (hk : findIn K (.ref C) "__getattr__" = some none)
    (h : ∀ E', wpAny (model prog w) A.in1 (call (.ref f) [a, .ref x, .ref C]) (fun v s' => wpAny (model prog w) A (handedOut v) Q E s') E' { s with toks := s.toks + 1 }) :
    wpAny (model prog w) A (getAttr (.ref x) name expr) Q E s := by
  obtain ⟨hh, gg, d, t, os⟩ := s
  have L0 := I.type (M := model prog w)
  have L1 := looks_findIn (M := model prog w) X hga
  have L2 := looks_find (M := model prog w) X I hf
  have L3 := looks_findIn (M := model prog w) X hk
  unfold getAttr getAttrBy
  refine wpAny_bind (wpAny_mkText (wpAny_holding (wpAny_bind (L0.at (wpAny_bind (L1.at ?_))))))
  dsimp only
  rw [show (onTheHeap (.ref C) && Value.builtin "tuple.__getattribute__" == Value.builtin "object.__getattribute__") = false from by rw [show (Value.builtin "tuple.__getattribute__" == Value.builtin "object.__getattribute__") = false from by decide +kernel, Bool.and_false], if_neg (by decide)]
  unfold getAttrByItsOwn hookBefore
  rw [if_pos (show onTheHeap (.ref C) = true from rfl)]
  refine wpAny_bind (L3.at (wpAny_bind (wpAny_attempt (wpAny_holding ?_))))
  unfold callGetattribute
  rw [show (expr && onTheHeap (Value.builtin "tuple.__getattribute__")) = false from Bool.and_false _, if_neg (by decide)]
  unfold boundAndCalled
  rw [PySem.F.slot_tuple_getattribute.bind]
  refine wpAny_bind (wpAny_pure ?_)
  show wpAny _ _ (call (.builtin "tuple.__getattribute__") [.ref x, .str name t]) _ _ _
  refine wpAny_call (codeAny_call_builtin PySem.F.slot_tuple_getattribute.plain PySem.F.entry_tuple_ga ?_)
  refine @check_slot (model prog w) _ _ ⟨hh, gg, d, t + 1, os⟩ "tuple.__getattribute__" "tuple" "__getattribute__" (.ref x) [.str name t] [] _ (by decide +kernel) (by decide +kernel) (L0.andThen (looks_mroIn X hm)) (PySem.F.args_tuple_getattribute_2 _ _) ?_
  unfold Builtin.«object.__getattribute__»
  refine wpAny_bind (wpAny_of_eq (a := (.ref x, [.str name t])) (by rfl) ?_)
  refine wpAny_bind (wpAny_pure ?_)
  refine wpAny_bind (L0.at (wpAny_bind (L2.at ?_)))
  show wpAny _ _ (bindTo (.ref f) a (.ref x) (.ref C)) _ _ _
  unfold bindTo
  dsimp only
  refine wpAny_bind (wpAny_holding (wpAny_mono (h _) (fun v s' z => wpAny_pure ?_) fun _ _ z => z))
  exact z
end
end
section
open Lean PySem PySem.Calls PySem.W PyProof.Rows PyProof.V PySem.Spec PyProof.Rows.LCg
section
variable {prog : Program} {w : World} {A : Around} {E : Value → Shared → Prop} {s : Shared} {env : Env} {h₀ : Heap} {L : Addr} {m : Str → Option Value}
theorem tup_st {ax I : Addr} {its : Array Value} {n0 : Nat} : ∀ i (h h' : Heap) (o : Obj) (nw : List (Addr × Obj)), (h.IsTupleIter I ax i ∧ h.IsTuple ax its) → h.get? I = some o → h'.get? I = some o → (∀ b o, h₀.get? b = some o → h'.get? b = some o) → News h₀ L h' nw →
    (ax, ({ cls := .type "tuple", data := .seq its n0 } : Obj)) ∈ nw → (h'.IsTupleIter I ax i ∧ h'.IsTuple ax its) :=
  fun i h h' o nw st e e' k N S => ⟨by obtain ⟨o', q, r⟩ := st.1; rw [e] at q; cases q; exact ⟨o, e', r⟩, ⟨_, (N _ S).1, rfl, n0, rfl⟩⟩
inductive CompTup (prog : Program) (w : World) (A : Around) (h₀ : Heap) (L : Addr) (m : Str → Option Value) (env : Env) (elt : PySem.Expr) (x : Str) (scope : Scope) (cl : List (Str × Addr)) (Q : Value → Shared → Prop) (v : Value) (s₁ : Shared) : Prop
  | mk (ax : Addr) (its : Array Value) (n0 : Nat) (news : List (Addr × Obj)) (q0 : v = .ref ax) (q1 : A.handled = none) (q2 : Fr h₀ L s₁.heap m) (q3 : News h₀ L s₁.heap news) (q4 : (ax, ({ cls := .type "tuple", data := .seq its n0 } : Obj)) ∈ news) (q5 : its.size ≤ sizeLine) (q6 : ∀ g, CompRest prog w A h₀ L m env elt x scope cl { s₁ with heap := g } (fun nw => (ax, ({ cls := .type "tuple", data := .seq its n0 } : Obj)) ∈ nw) (fun i v => its[i]? = some v) (FinE h₀ L m { s₁ with heap := g } Q) its.size 0 [] news) : CompTup prog w A h₀ L m env elt x scope cl Q v s₁
theorem CompTup.intro {elt : PySem.Expr} {x : Str} {scope : Scope} {cl : List (Str × Addr)} {Q : Value → Shared → Prop} {s₁ : Shared} {ax : Addr} {its : Array Value} {n0 : Nat} {news : List (Addr × Obj)}
    (hh : A.handled = none) (F : Fr h₀ L s₁.heap m) (N : News h₀ L s₁.heap news) (hm : (ax, ({ cls := .type "tuple", data := .seq its n0 } : Obj)) ∈ news) (hz : its.size ≤ sizeLine)
    (h : ∀ g, CompRest prog w A h₀ L m env elt x scope cl { s₁ with heap := g } (fun nw => (ax, ({ cls := .type "tuple", data := .seq its n0 } : Obj)) ∈ nw) (fun i v => its[i]? = some v) (FinE h₀ L m { s₁ with heap := g } Q) its.size 0 [] news) :
    CompTup prog w A h₀ L m env elt x scope cl Q (.ref ax) s₁ := ⟨ax, its, n0, news, rfl, hh, F, N, hm, hz, h⟩
theorem comp_tup {elt iter : PySem.Expr} {x : Str} {px : Pos} {scope : Scope} {cl : List (Str × Addr)} {pos : Pos} {Q : Value → Shared → Prop} (_F₀ : Fr h₀ L s.heap m)
    (hclos : closureFor scope env = pure cl) (hcell : ∀ y ∈ scope.names, y.2 ≠ .cell) (hkind : scope.kind = .function)
    (hnames : ∀ y ∈ scope.names, y.2 = .local → scope.names.lookup y.1 = some .local) (hx : scope.names.lookup x = some .local)
    (h : wpAny (model prog w) A (eval iter env) (CompTup prog w A h₀ L m env elt x scope cl Q) E s)
    (hs : ∀ x, foldedSetIterable iter env x = pure x := by intro _; rfl) :
    wpAny (model prog w) A (eval (.ListComp elt [⟨.Name x px, iter, [], 0⟩] scope pos) env) Q E s := by
  rw [eval_ListComp]
  refine wpAny_comprehension_free (use := none) rfl hs hclos hkind hnames (wpAny_mono h (fun xv s₁ h₁ => ?_) fun _ _ e => e)
  obtain ⟨ax, its, n0, news, rfl, hh, F, N, hm, hsz, R⟩ := h₁
  have ht : s₁.heap.IsTuple ax its := ⟨_, (N _ hm).1, rfl, n0, rfl⟩
  have hlt : ax < s₁.heap.objs.size := Heap.lt_size (N _ hm).1
  refine wpAny_pyIter_tuple ht ?_
  have up : ∀ b o, s₁.heap.get? b = some o → (s₁.heap.push { cls := .type "tuple_iterator", data := .fields #[.ref ax, .int 0 0] }).get? b = some o := fun b o e => Heap.get?_push_of_some _ e
  refine block_U (Walks.tuple hh s₁.heap.objs.size ax (Nat.ne_of_lt hlt) its) hsz (fun i h st => by obtain ⟨o, e, _⟩ := st.1; exact ⟨o, e⟩) tup_st hcell hkind hx ⟨⟨_, Heap.get?_push_size _ rfl, rfl, rfl⟩, ⟨_, up _ _ (N _ hm).1, rfl, n0, rfl⟩⟩ (fun b hb => ?_)
    (F.keeps up) (N.grown up) (Nat.ne_of_lt F.ns.lt) (next_is_new F) (fun p hp => Nat.ne_of_lt (Heap.lt_size (N p hp).1)) hm (R _) ?_
  · show b < (s₁.heap.push _).objs.size
    rw [Heap.size_push]
    rcases List.mem_cons.mp hb with rfl | hb
    · exact Nat.lt_succ_self _
    · rw [List.mem_singleton.mp hb]; exact Nat.lt_succ_of_lt hlt
  · intro D C h tk m' ys news' F' N' o1 hn hC₀ hD₀ hCL hDL hCD offC fin
    refine ⟨m', hn, fun h'' hs'' => fin D h'' tk (F'.change hs'' hCL hC₀) (fun p hp => ?_) o1⟩
    refine ⟨hs''.extBut _ _ ?_ (N' p hp).1, (N' p hp).2⟩
    rcases List.mem_cons.mp hp with rfl | hp
    · exact Ne.symm hCD
    · exact offC p hp
end
end
section
open Lean PySem PySem.Calls PySem.W PyProof.Rows PyProof.V PySem.Spec PyProof.Rows.LCg
local macro_rules | `(tactic| walk_at $s:str) => `(tactic| k_extra $(Lean.Syntax.mkStrLit ("C1 " ++ s.getString)))
section
variable {prog : Program} {w : World} {p : Program} {loose : List Str} {mean : ExcName → Option Value} {mg mb : Str → Option Value} {dp un : Nat} {gd : Option (List Code)} {cn : Str} {cs : Scope} {a : Addr} {ccd : Value} {cl : List (Str × Addr)} {outer : List Env} {A₀ : Around} {base h₀ : Heap} {L : Addr} {m : Str → Option Value} {news : List (Addr × Obj)} {s : Shared} {Q E : Value → Shared → Prop}
theorem ln_C1_1 : True := by
  try walk1
  k_with "ln 0" => (first | exact room_lt (by assumption) (by rfl) | exact room_lt (Nat.add_le_add_right (by assumption) _) (by rfl) | (simp only [depth_mark, depth_under_make, depth_under_kw, depth_in1, depth_deeper, depth_caller, ktrTop, recursionLimit]; omega))
  k_with "C1 k:k_room" => k_extra "ln 0"
  k_with "ln 1" => (first
  | (refine' code_def ?z1xk1 ?z1xk2 ?z1xk3 ?z1xk4 ?z1xk5 ?z1xkA ?z1xkF ?z1xkK ?z1xk6 ?z1xk7 ?z1xk8 ?z1xk9 ?z1xkB ?_ ?z1xc2 ?z1xc3 ?z1xc4 ?z1xc5; (case z1xkA => exact rfl); (case z1xkF => exact rfl); (case z1xkK => first | assumption | exact rfl); (case z1xk1 => k_asm); (case z1xk2 => k_asm); (case z1xk3 => k_asm); (case z1xk4 => k_asm); (case z1xk5 => k_asm); (case z1xk6 => k_is); (case z1xk7 => k_is); (case z1xk8 => k_room); (case z1xk9 => first | exact BindsTo.of_eq rfl | exact binds_K (by k_in) rfl (by k_is) rfl rfl rfl | fail "k_enter: no rule for these arguments"); (case z1xc5 => decide); (case z1xkB => exact locs rfl); (case z1xc2 => exact rfl); (case z1xc3 => exact rfl); (case z1xc4 => exact rfl); k_whole; intro g'q L'q h'q FG'q F'q N'q B'q X'q T'q; (try dsimp only); (try k_lift B'q); (try k_fold))
  | (refine' code_defC ?z1xk1 ?z1xk2 ?z1xk3 ?z1xk4 ?z1xk5 ?z1xkA ?z1xkF ?z1xkK ?z1xk6 ?z1xk7 ?z1xk8 ?z1xk9 ?z1xkB ?z1xkD ?_ ?z1xc2 ?z1xc3 ?z1xc4; (case z1xkA => exact rfl); (case z1xkF => exact rfl); (case z1xkK => first | assumption | exact rfl); (case z1xk1 => k_asm); (case z1xk2 => k_asm); (case z1xk3 => k_asm); (case z1xk4 => k_asm); (case z1xk5 => k_asm); (case z1xk6 => k_is); (case z1xk7 => k_is); (case z1xk8 => k_room); (case z1xk9 => first | exact BindsTo.of_eq rfl | exact binds_K (by k_in) rfl (by k_is) rfl rfl rfl | fail "k_enter: no rule for these arguments"); (case z1xkB => exact rfl); (case z1xkD => decide +kernel); (case z1xc2 => exact rfl); (case z1xc3 => exact rfl); (case z1xc4 => exact rfl); k_whole; intro g'q L'q h'q tk'q cells'q FG'q F'q N'q Y'q B'q X'q T'q l1; (try k_lt l1); k_cells Y'q; (try simp only [List.cons_append, List.nil_append] at N'q); (try dsimp only); (try k_lift B'q); (try k_fold)))
  k_with "C1 k:k_enter" => k_extra "ln 1"
  k_with "ln 2" => (first
  | assumption
  | exact List.Mem.head _
  | (refine List.Mem.tail _ ?_; walk_at "my_mem")
  | (refine mem_of ?_; assumption)
  | (refine mem_left ?_; walk_at "my_mem")
  | (refine mem_right ?_; walk_at "my_mem"))
  k_with "C1 my_mem" => k_extra "ln 2"
  k_with "ln 3" => (walk_at "my_mem")
  k_with "C1 k:k_mem" => k_extra "ln 3"
  k_with "ln 4" => ((repeat (rename @LT.lt Nat _ _ _ ∧ _ => hA'q; obtain ⟨_, _⟩ := hA'q)))
  k_with "C1 my_split" => k_extra "ln 4"
  k_with "ln 5" => (first | with_reducible assumption | (rename @LT.lt Nat _ _ _ ∧ _ => hA'q; first | (with_reducible first | exact hA'q.1 | exact hA'q.2.1 | exact hA'q.2.2.1 | exact hA'q.2.2.2.1 | exact hA'q.2.2.2.2.1 | exact hA'q.2.2.2.2.2.1 | exact hA'q.2.2.2.2.2.2.1 | exact hA'q.2.2.2.2.2.2.2.1 | exact hA'q.2.2.2.2.2.2.2.2.1 | exact hA'q.2.2.2.2.2.2.2.2.2.1 | exact hA'q.2.2.2.2.2.2.2.2.2.2.1 | exact hA'q.2.2.2.2.2.2.2.2.2.2.2.1 | exact hA'q.2.2.2.2.2.2.2.2.2.2.2.2.1 | exact hA'q.2.2.2.2.2.2.2.2.2.2.2.2.2.1 | exact hA'q.2.2.2.2.2.2.2.2.2.2.2.2.2.2.1 | exact hA'q.2.2.2.2.2.2.2.2.2.2.2.2.2.2.2.1 | exact hA'q.2.2.2.2.2.2.2.2.2.2.2.2.2.2.2.2.1 | exact hA'q.2.2.2.2.2.2.2.2.2.2.2.2.2.2.2.2.2.1 | exact hA'q.2.2.2.2.2.2.2.2.2.2.2.2.2.2.2.2.2.2.1 | exact hA'q.2.2.2.2.2.2.2.2.2.2.2.2.2.2.2.2.2.2.2.1 | exact hA'q.2.2.2.2.2.2.2.2.2.2.2.2.2.2.2.2.2.2.2.2.1 | exact hA'q.2.2.2.2.2.2.2.2.2.2.2.2.2.2.2.2.2.2.2.2.2.1 | exact hA'q.2.2.2.2.2.2.2.2.2.2.2.2.2.2.2.2.2.2.2.2.2.2.1 | exact hA'q.2.2.2.2.2.2.2.2.2.2.2.2.2.2.2.2.2.2.2.2.2.2.2.1 | exact hA'q.2.2.2.2.2.2.2.2.2.2.2.2.2.2.2.2.2.2.2.2.2.2.2.2.1 | exact hA'q.2.2.2.2.2.2.2.2.2.2.2.2.2.2.2.2.2.2.2.2.2.2.2.2.2.1 | exact hA'q.2.2.2.2.2.2.2.2.2.2.2.2.2.2.2.2.2.2.2.2.2.2.2.2.2.2.1 | exact hA'q.2.2.2.2.2.2.2.2.2.2.2.2.2.2.2.2.2.2.2.2.2.2.2.2.2.2.2.1 | exact hA'q.2.2.2.2.2.2.2.2.2.2.2.2.2.2.2.2.2.2.2.2.2.2.2.2.2.2.2.2.1 | exact hA'q.2.2.2.2.2.2.2.2.2.2.2.2.2.2.2.2.2.2.2.2.2.2.2.2.2.2.2.2.2.1) | (clear hA'q; walk_at "my_ltf")))
  k_with "C1 my_ltf" => k_extra "ln 5"
  k_with "ln 6" => ((show _ ≠ _; (try dsimp only); first | with_reducible assumption | (refine Ne.symm ?_; with_reducible assumption) | (refine Nat.ne_of_gt ?_; with_reducible assumption) | (refine Nat.ne_of_lt ?_; with_reducible assumption) | (refine Nat.ne_of_gt ?_; walk_at "my_ltf") | (refine Nat.ne_of_lt ?_; walk_at "my_ltf") | assumption | (refine Ne.symm ?_; assumption)))
  k_with "C1 k:k_ne" => k_extra "ln 6"
  k_with "ln 7" => (first
  | exact List.forall_mem_nil _
  | (refine List.forall_mem_cons.mpr ⟨by k_mem, ?_⟩; walk_at "my_reord")
  | (refine List.forall_mem_append.mpr ⟨?_, ?_⟩ <;> walk_at "my_reord")
  | (intro p hp; k_mem))
  k_with "C1 my_reord" => k_extra "ln 7"
  k_with "ln 8" => (first
  | assumption
  | exact off_app (by assumption) (by assumption)
  | (refine' List.forall_mem_cons.mpr ⟨?z8xa, ?z8xb⟩; (case z8xa => k_ne); (case z8xb => walk_at "my_all")))
  k_with "C1 my_all" => k_extra "ln 8"
  k_with "ln 9" => (walk_at "my_all")
  k_with "C1 k:k_all" => k_extra "ln 9"
  k_with "ln 10" => ((k_here; (with_reducible show wpAny _ _ (call (Value.builtin "len") [Value.ref _]) _ _ _); k_dflt (refine' len_rows ?z10xN ?z10xm ?z10xr ?z10xb ?_; (case z10xN => k_asm); (case z10xm => k_mem); (case z10xr => assumption); (case z10xb => first | assumption | omega); k_whole)))
  k_with "C1 call builtin:len" => k_extra "ln 10"
  k_with "ln 11" => ((k_here; (with_reducible show wpAny _ _ (subscriptTail _ _ (Value.ref _) (Value.int _ _)) _ _ _); k_dflt (refine' row_item ?z11xN ?z11xm ?z11xr ?z11xa ?z11xb ?z11xc ?_ ?z11xd; (case z11xN => k_asm); (case z11xm => k_mem); (case z11xr => assumption); (case z11xa => omega); (case z11xb => omega); (case z11xc => omega); (case z11xd => with_unfolding_all rfl); k_whole); intro a'q t'q u'q n'q r'q hr'q hm'q))
  k_with "C1 subscriptTail" => k_extra "ln 11"
  k_with "C1 subscriptTail Name Name ref int" => k_extra "ln 11"
  k_with "ln 12" => ((k_here; (with_reducible show wpAny _ _ (subscriptTail _ _ (Value.ref _) (Value.ref _)) _ _ _); (rename Fr _ _ _ _ => lF'q); (rename News _ _ _ _ => lN'q); k_dflt (refine' rows_slice lF'q lN'q ?z12xm ?z12xr ?z12xa ?z12xb ?_ ?z12xc ?z12xd; (case z12xm => k_mem); (case z12xr => assumption); (case z12xa => omega); (case z12xb => first | assumption | omega); (case z12xc => with_unfolding_all rfl); (case z12xd => (intro _; with_unfolding_all rfl)); k_whole); intro D'q ws'q h'q F'q N'q l1 hr'q; clear lF'q lN'q; (try k_lt l1)))
  k_with "C1 subscriptTail" => k_extra "ln 12"
  k_with "C1 subscriptTail Name Slice ref ref" => k_extra "ln 12"
  k_with "ln 13" => ((k_here; (with_reducible show wpAny _ _ (call (Value.builtin "sum") [Value.ref _]) _ _ _); k_dflt (refine' sumK ?z13xk0 ?z13xk1 ?z13xk2 ?z13xk3 ?z13xk4 ?_; (case z13xk0 => with_unfolding_all rfl); (case z13xk1 => k_asm); (case z13xk2 => k_asm); (case z13xk3 => exact heap_list (by k_asm) (by k_mem)); (case z13xk4 => assumption); k_whole); intro h'q tk'q t'q F'q N'q))
  k_with "C1 call builtin:sum" => k_extra "ln 13"
  k_with "ln 14" => (refine Stop.out ?_)
  k_with "C1 eval ListComp" => k_extra "ln 14"
  k_with "C1 pyIter ref" => k_extra "ln 14"
  trivial

def WinJ (l : Addr) (x y : Int) (t1 t2 : Tok) (rows : List Row) (i : Nat) (m : Str → Option Value) : Prop :=
  m (Str.ofString "rows") = some (.ref l) ∧ m (Str.ofString "amount") = some (.int x t1) ∧ m (Str.ofString "window") = some (.int y t2) ∧ fitsF x y none 0 (rows.take i) = true ∧
  ∃ op tot vo u, fstate y none 0 (rows.take i) = (op, tot) ∧ m (Str.ofString "opener") = some vo ∧ m (Str.ofString "total") = some (.int tot u) ∧ (match op with | none => vo = .none | some o => ∃ t, vo = .int o t)
set_option maxHeartbeats 4000000 in
theorem law_windows_ok (B : Below A₀ base outer h₀) (F : Fr h₀ L s.heap m) (X : (kd.heap_1 w.params).In h₀) (N : News h₀ L s.heap news) (T : Top p loose mean mg mb h₀) (hk : cs.kind = .function) (hdp : dp ≤ 950) (hun : un ≤ 9500) {l : Addr} {vs : List Value} {nn : Nat} {rows : List Row} {x y : Int} {t1 t2 : Tok}
   (hl : (l, listOf vs.toArray nn) ∈ news) (hr : RowsAre news vs rows)
   (ret : ∀ h' tk', Fr h₀ L h' m → News h₀ L h' news → Q (.bool (fitsF x y none 0 rows)) { s with heap := h', toks := tk'}) :
   wpAny (model prog w) (ktrTop dp un gd cn cs L a ccd cl outer) (call (.ref 725) [.ref l, .int x t1, .int y t2]) Q E s := by
  refine wpAny_call ?_
  k_dflt k_enter
  refine wpAny_execs_cons ?_
  k_steps
  rename Fr _ _ _ _ => F1
  rename News _ _ _ _ => N1
  refine For_rows (WinJ l x y t1 t2 rows) rfl rfl rfl rfl F1 N1 hl hr ?hz ?h0 ?turn ?done (by passes_own)
  case hz => exact ld F1 rfl ⟨rfl, rfl⟩
  case h0 => exact ⟨rfl, rfl, rfl, by simp [fitsF], none, 0, _, _, by simp [fstate], rfl, rfl, rfl⟩
  case done =>
    rintro m₁ h tk ⟨e1, e2, e3, hf, _⟩ F2 N2
    clear F1 N1
    rw [List.take_length] at hf
    replace F2 := Fr.see F2 [(Str.ofString "rows", .ref l)] (by simpa using e1)
    dsimp only [seen] at F2
    k_steps
    rw [hf] at ret
    exact ret _ _ (by assumption) (by assumption)
  case turn =>
    rintro i r t u m₁ h tk I oI hri ⟨e1, e2, e3, hf, op, tot, vo, tu, hs, e4, e5, hv⟩ F2 N2 hI
    clear F1 N1
    have hs1 : rows.take (i + 1) = rows.take i ++ [r] := by simp [List.take_add_one, hri]
    replace F2 := Fr.see2 F2 [(Str.ofString "rows", .ref l), (Str.ofString "amount", .int x t1), (Str.ofString "window", .int y t2), (Str.ofString "opener", vo), (Str.ofString "total", .int tot tu)] (by simp [e1, e2, e3, e4, e5])
    dsimp only [seen] at F2
    cases op with
    | none =>
      subst hv
      k_steps
      · rw [fitsF_bad (A := x) hri hs (by simp only [fopen, if_true]; omega)] at ret
        exact ret _ _ (by assumption) (cb_drop (by assumption) fun p hp => .tail _ hp)
      · refine RowEnd.intro (by assumption) (by assumption) (fun _ h => h) ⟨rfl, rfl, rfl, fitsF_good hri hf hs (by simp only [fopen, if_true]; omega), some r.1, 0 + r.2, _, _, ?_, rfl, rfl, _, rfl⟩
        rw [fstate_next hri hs]; simp [fopen]
    | some o =>
      obtain ⟨to, rfl⟩ := hv
      k_steps
      · rw [fitsF_bad (A := x) hri hs (by simp only [fopen, decide_eq_true_eq]; split <;> omega)] at ret
        exact ret _ _ (by assumption) (cb_drop (by assumption) fun p hp => .tail _ hp)
      · refine RowEnd.intro (by assumption) (by assumption) (fun _ h => h) ⟨rfl, rfl, rfl, fitsF_good hri hf hs (by simp only [fopen, decide_eq_true_eq]; split <;> omega), some r.1, 0 + r.2, _, _, ?_, rfl, rfl, _, rfl⟩
        rw [fstate_next hri hs]; simp only [fopen, decide_eq_true_eq]; rw [if_pos (by omega), Int.zero_add]
      · rw [fitsF_bad (A := x) hri hs (by simp only [fopen, decide_eq_true_eq]; split <;> omega)] at ret
        exact ret _ _ (by assumption) (cb_drop (by assumption) fun p hp => .tail _ hp)
      · refine RowEnd.intro (by assumption) (by assumption) (fun _ h => h) ⟨rfl, rfl, rfl, fitsF_good hri hf hs (by simp only [fopen, decide_eq_true_eq]; split <;> omega), some o, tot + r.2, _, _, ?_, rfl, rfl, _, rfl⟩
        rw [fstate_next hri hs]; simp only [fopen, decide_eq_true_eq]; rw [if_neg (by omega)]
end
end
section
open Lean PySem PySem.Calls PySem.W PyProof.Rows PyProof.V PySem.Spec PyProof.Rows.LCg
local macro_rules | `(tactic| walk_at $s:str) => `(tactic| k_extra $(Lean.Syntax.mkStrLit ("C2 " ++ s.getString)))
local macro_rules | `(tactic| walk_at "none") => `(tactic| fail)
section
variable {prog : Program} {w : World} {p : Program} {loose : List Str} {mean : ExcName → Option Value} {mg mb : Str → Option Value} {dp un : Nat} {gd : Option (List Code)} {cn : Str} {cs : Scope} {a : Addr} {ccd : Value} {cl : List (Str × Addr)} {outer : List Env} {A₀ : Around} {base h₀ : Heap} {L : Addr} {m : Str → Option Value} {news : List (Addr × Obj)} {s : Shared} {Q E : Value → Shared → Prop}
theorem ln_C2_1 : True := by
  try walk1
  k_with "C2 k:k_room" => k_extra "ln 0"
  k_with "C2 k:k_enter" => k_extra "ln 1"
  k_with "C2 my_mem" => k_extra "ln 2"
  k_with "C2 k:k_mem" => k_extra "ln 3"
  k_with "C2 my_split" => k_extra "ln 4"
  k_with "C2 my_ltf" => k_extra "ln 5"
  k_with "C2 k:k_ne" => k_extra "ln 6"
  k_with "C2 my_reord" => k_extra "ln 7"
  k_with "C2 my_all" => k_extra "ln 8"
  k_with "C2 k:k_all" => k_extra "ln 9"
  k_with "C2 call builtin:len" => k_extra "ln 10"
  k_with "C2 subscriptTail" => k_extra "ln 11"
  k_with "C2 subscriptTail Name Name ref int" => k_extra "ln 11"
  k_with "C2 subscriptTail" => k_extra "ln 12"
  k_with "C2 subscriptTail Name Slice ref ref" => k_extra "ln 12"
  k_with "C2 call builtin:sum" => k_extra "ln 13"
  k_with "C2 eval ListComp" => k_extra "ln 14"
  k_with "C2 pyIter ref" => k_extra "ln 14"
  trivial

def StrJ (l : Addr) (x y : Int) (t1 t2 : Tok) (rows : List Row) (cS cW : Addr) (news : List (Addr × Obj)) (i : Nat) (m : Str → Option Value) (nx : List (Addr × Obj)) : Prop :=
  m (Str.ofString "rows") = some (.ref l) ∧ m (Str.ofString "amount") = some (.int x t1) ∧ (∃ (oS oW : Obj) (v : Option Value), nx = (cS, oS) :: (cW, oW) :: news ∧ oS.data = .cell v ∧ oW.data = .cell (some (.int y t2))) ∧
  ∀ j r, j < i → rows[j]? = some r → wsum r.1 y (rows.drop j) ≤ x
set_option maxHeartbeats 4000000 in
theorem law_stretches_ok (B : Below A₀ base outer h₀) (F : Fr h₀ L s.heap m) (X : (kd.heap_1 w.params).In h₀) (N : News h₀ L s.heap news) (T : Top p loose mean mg mb h₀) (hk : cs.kind = .function) (hdp : dp ≤ 950) (hun : un ≤ 9500) {l : Addr} {vs : List Value} {nn : Nat} {rows : List Row} {x y : Int} {t1 t2 : Tok}
   (hl : (l, listOf vs.toArray nn) ∈ news) (hr : RowsAre news vs rows) (hb : rows.length ≤ 1000)
   (ret : ∀ h' tk', Fr h₀ L h' m → News h₀ L h' news → Q (.bool (fitsM x y rows)) { s with heap := h', toks := tk'}) :
   wpAny (model prog w) (ktrTop dp un gd cn cs L a ccd cl outer) (call (.ref 718) [.ref l, .int x t1, .int y t2]) Q E s := by
  refine wpAny_call ?_
  k_dflt k_enter
  k_steps
  refine Stop.out (P := Stop _) ?_
  unfold Stop
  rename IsRange _ _ _ _ _ _ _ _ => R1
  rename Fr _ _ _ _ => F1
  rename News _ _ _ _ => N1
  rename ∀ p ∈ news, p.fst < _ => l1
  refine iter_rangeJ (StrJ l x y t1 t2 rows _ _ news) rfl R1 rfl hb F1 N1 ⟨rfl, rfl, ⟨_, _, _, rfl, by assumption, by assumption⟩, by intro j r hj; omega⟩ ?turn ?done
  case done =>
    rintro m₁ nx h tk ⟨e1, e2, ⟨oS, oW, v, rfl, f1, f2⟩, hall⟩ F2 N2
    clear F1 N1
    k_steps
    rw [fitsM_all fun j r hj => hall j r (List.getElem?_eq_some_iff.mp hj).1 hj] at ret
    exact ret _ _ (by assumption) (cb_drop (by assumption) fun p hp => .tail _ (.tail _ hp))
  case turn =>
    rintro i t m₁ nx h tk own hi hoff ⟨e1, e2, ⟨oS, oW, v, rfl, f1, f2⟩, hall⟩ F2 N2
    clear F1 N1 R1
    have o1 := hoff.ne (b := _) (.head _)
    have o2 := hoff.ne (b := _) (.tail _ (.head _))
    have n1 := (cell_off l1).2
    replace F2 := Fr.see1 F2 [(Str.ofString "rows", .ref l), (Str.ofString "amount", .int x t1)] (by simp [e1, e2])
    dsimp only [seen] at F2
    simp only [List.cons_append] at N2
    k_steps
    rename rows[_]? = some _ => hri
    obtain ⟨r0, hr0, er0⟩ := named hri
    subst er0
    refine Stop.out (P := Stop _) ?_
    unfold Stop
    rename Fr _ _ _ _ => F3
    refine comp_rows (fun r => decide (r.1 - r0.1 < y)) (fun r => r.2) F3 rfl (by decide) rfl (by decide) rfl rfl (by decide) rfl ?_
    k_steps
    rename Fr _ _ _ _ => F4
    rename News _ _ _ _ => N4
    refine CompRows.intro F4 N4 (by k_mem) (by assumption) (fun p hp => .tail _ (.tail _ (.tail _ (mem_left hp)))) (by rw [List.length_drop, sizeLine_eq]; omega) ?one ?fin
    case one =>
      intro g r t u I oI C oC D oD m₂ h tk E' hC ha hb F5 N5
      k_steps
      refine RowTest.intro (by rfl) (by assumption) (by assumption) fun _ => ?_
      k_steps
      exact RowVal.intro (by assumption) (by assumption)
    case fin =>
      intro D ys h tk hys F5 N5 hD
      rw [Int.toNat_natCast] at hys hr0
      have hsum := sum_filter r0.1 y (rows.drop i)
      k_steps
      · rw [fitsM_bad hr0 (by omega)] at ret
        exact ret _ _ (by assumption) (cb_drop (by assumption) fun p hp => .tail _ (.tail _ (.tail _ (.tail _ (mem_left hp)))))
      · refine InvEndG.intro (nx := _ :: _ :: news) (by assumption) (by assumption) ⟨rfl, rfl, ⟨_, _, _, rfl, by assumption, by assumption⟩, ?_⟩ (by exact hoff) (by exact fun p hp => .tail _ (.tail _ (mem_pre2 hp))) (by exact fun p hp => .tail _ (.tail _ (.tail _ (.tail _ (mem_right hp)))))
        · intro j r hj hr2
          by_cases e : j < i
          · exact hall j r e hr2
          · have e : j = i := by omega
            subst e
            rw [hr0] at hr2; cases hr2
            omega
end
end
section
open Lean PySem PySem.Calls PySem.W PyProof.Rows PyProof.V PySem.Spec PyProof.Rows.LCg
local macro_rules | `(tactic| walk_at $s:str) => `(tactic| k_extra $(Lean.Syntax.mkStrLit ("C3 " ++ s.getString)))
section
variable {prog : Program} {w : World} {p : Program} {loose : List Str} {mean : ExcName → Option Value} {mg mb : Str → Option Value} {dp un : Nat} {gd : Option (List Code)} {cn : Str} {cs : Scope} {a : Addr} {ccd : Value} {cl : List (Str × Addr)} {outer : List Env} {A₀ : Around} {base h₀ : Heap} {L : Addr} {m : Str → Option Value} {news : List (Addr × Obj)} {s : Shared} {Q E : Value → Shared → Prop}
theorem ln_C3_1 : True := by
  try walk1
  k_with "C3 k:k_room" => k_extra "ln 0"
  k_with "C3 k:k_enter" => k_extra "ln 1"
  k_with "C3 my_mem" => k_extra "ln 2"
  k_with "C3 k:k_mem" => k_extra "ln 3"
  k_with "C3 my_split" => k_extra "ln 4"
  k_with "C3 my_ltf" => k_extra "ln 5"
  k_with "C3 k:k_ne" => k_extra "ln 6"
  k_with "C3 my_reord" => k_extra "ln 7"
  k_with "C3 my_all" => k_extra "ln 8"
  k_with "C3 k:k_all" => k_extra "ln 9"
  k_with "C3 call builtin:len" => k_extra "ln 10"
  k_with "C3 subscriptTail" => k_extra "ln 11"
  k_with "C3 subscriptTail Name Name ref int" => k_extra "ln 11"
  k_with "C3 subscriptTail" => k_extra "ln 12"
  k_with "C3 subscriptTail Name Slice ref ref" => k_extra "ln 12"
  k_with "C3 call builtin:sum" => k_extra "ln 13"
  k_with "ln 15" => (first | assumption | exact RowsAre.mono (by assumption) (by intro p hp; k_mem))
  k_with "C3 my_rows" => k_extra "ln 15"
  k_with "ln 16" => (first | exact room_le (by assumption) (by rfl) | omega | ((try simp only [depth_mark, depth_under_make, depth_under_kw, depth_in1, depth_deeper, depth_caller, units_in1, units_deeper, Around.mark_units, units_caller] at *); (try dsimp only [ktrTop] at *); omega))
  k_with "C3 my_room" => k_extra "ln 16"
  k_with "ln 17" => (((case zcB => k_asm); (case zcF => k_asm); (case zcX => k_asm); (case zcN => k_asm); (case zcT => k_asm); (case zchk => first | exact rfl | assumption); (case zcdp => walk_at "my_room"); (case zcun => walk_at "my_room")))
  k_with "C3 my_ctx" => k_extra "ln 17"
  k_with "ln 18" => (((case zcB => k_asm); (case zcF => k_asm); (case zcX => k_asm); (case zcT => k_asm); (case zchk => first | exact rfl | assumption); (case zcdp => walk_at "my_room"); (case zcun => walk_at "my_room")))
  k_with "C3 my_ctx0" => k_extra "ln 18"
  k_with "ln 19" => ((k_here; (with_reducible show wpAny _ _ (call (Value.ref 725) _) _ _ _); k_dflt (refine' law_windows_ok ?zcB ?zcF ?zcX ?zcN ?zcT ?zchk ?zcdp ?zcun ?z19xhl ?z19xhr ?_; (walk_at "my_ctx"); (case z19xhl => k_mem); (case z19xhr => walk_at "my_rows"); k_whole); intro h'q tk'q F'q N'q))
  k_with "C3 call ref" => k_extra "ln 19"
  k_with "ln 20" => ((k_here; (with_reducible show wpAny _ _ (call (Value.ref 718) _) _ _ _); k_dflt (refine' law_stretches_ok ?zcB ?zcF ?zcX ?zcN ?zcT ?zchk ?zcdp ?zcun ?z20xhl ?z20xhr ?z20xhb ?_; (walk_at "my_ctx"); (case z20xhl => k_mem); (case z20xhr => walk_at "my_rows"); (case z20xhb => assumption); k_whole); intro h'q tk'q F'q N'q))
  k_with "C3 call ref" => k_extra "ln 20"
  trivial

def fits (place A W : Int) (rows : List Row) : Bool := if place = 2 then fitsF A W none 0 rows else fitsM A W rows
set_option maxHeartbeats 4000000 in
theorem law_fits_ok (B : Below A₀ base outer h₀) (F : Fr h₀ L s.heap m) (X : (kd.heap_1 w.params).In h₀) (N : News h₀ L s.heap news) (T : Top p loose mean mg mb h₀) (hk : cs.kind = .function) (hdp : dp ≤ 940) (hun : un ≤ 9440) {l : Addr} {vs : List Value} {nn : Nat} {rows : List Row} {k x y : Int} {t0 t1 t2 : Tok}
   (hl : (l, listOf vs.toArray nn) ∈ news) (hr : RowsAre news vs rows) (hb : rows.length ≤ 1000)
   (ret : ∀ h' tk', Fr h₀ L h' m → News h₀ L h' news → Q (.bool (fits k x y rows)) { s with heap := h', toks := tk'}) :
   wpAny (model prog w) (ktrTop dp un gd cn cs L a ccd cl outer) (call (.ref 732) [.int k t0, .ref l, .int x t1, .int y t2]) Q E s := by
  k_steps
  · rename k = 2 => e
    rw [show fits k x y rows = fitsF x y none 0 rows from if_pos e] at ret
    exact ret _ _ (by assumption) (by assumption)
  · rename ¬ k = 2 => e
    rw [show fits k x y rows = fitsM x y rows from if_neg e] at ret
    exact ret _ _ (by assumption) (by assumption)
end
end
section
open Lean PySem PySem.Calls PySem.W PyProof.Rows PyProof.V PySem.Spec PyProof.Rows.LCg
local macro_rules | `(tactic| walk_at $s:str) => `(tactic| k_extra $(Lean.Syntax.mkStrLit ("C4 " ++ s.getString)))
local macro_rules | `(tactic| walk_at "none") => `(tactic| fail)
section
variable {prog : Program} {w : World} {p : Program} {loose : List Str} {mean : ExcName → Option Value} {mg mb : Str → Option Value} {dp un : Nat} {gd : Option (List Code)} {cn : Str} {cs : Scope} {a : Addr} {ccd : Value} {cl : List (Str × Addr)} {outer : List Env} {A₀ : Around} {base h₀ : Heap} {L : Addr} {m : Str → Option Value} {news : List (Addr × Obj)} {s : Shared} {Q E : Value → Shared → Prop}
theorem ln_C4_1 : True := by
  try walk1
  k_with "C4 k:k_room" => k_extra "ln 0"
  k_with "C4 k:k_enter" => k_extra "ln 1"
  k_with "C4 my_mem" => k_extra "ln 2"
  k_with "C4 k:k_mem" => k_extra "ln 3"
  k_with "C4 my_split" => k_extra "ln 4"
  k_with "C4 my_ltf" => k_extra "ln 5"
  k_with "C4 k:k_ne" => k_extra "ln 6"
  k_with "C4 my_reord" => k_extra "ln 7"
  k_with "C4 my_all" => k_extra "ln 8"
  k_with "C4 k:k_all" => k_extra "ln 9"
  k_with "C4 call builtin:len" => k_extra "ln 10"
  k_with "C4 subscriptTail" => k_extra "ln 11"
  k_with "C4 subscriptTail Name Name ref int" => k_extra "ln 11"
  k_with "C4 subscriptTail" => k_extra "ln 12"
  k_with "C4 subscriptTail Name Slice ref ref" => k_extra "ln 12"
  k_with "C4 call builtin:sum" => k_extra "ln 13"
  k_with "C4 my_rows" => k_extra "ln 15"
  k_with "C4 my_room" => k_extra "ln 16"
  k_with "C4 my_ctx" => k_extra "ln 17"
  k_with "C4 my_ctx0" => k_extra "ln 18"
  k_with "C4 eval ListComp" => k_extra "ln 14"
  k_with "C4 pyIter ref" => k_extra "ln 14"
  k_with "ln 21" => ((k_here; (with_reducible show wpAny _ _ (call (Value.ref 732) _) _ _ _); k_dflt (refine' law_fits_ok ?zcB ?zcF ?zcX ?zcN ?zcT ?zchk ?zcdp ?zcun ?z21xhl ?z21xhr ?z21xhb ?_; (walk_at "my_ctx"); (case z21xhl => k_mem); (case z21xhr => walk_at "my_rows"); (case z21xhb => assumption); k_whole); intro h'q tk'q F'q N'q))
  k_with "C4 call ref" => k_extra "ln 21"
  trivial

abbrev tup (vs : List Value) (n : Nat) : Obj := { cls := .type "tuple", data := .seq vs.toArray n }
def EvJ (tl l : Addr) (A0 W0 A1 W1 A2 W2 : Int) (rows : List Row) (news : List (Addr × Obj)) (i : Nat) (m : Str → Option Value) (nx : List (Addr × Obj)) : Prop :=
  nx = news ∧ m (Str.ofString "limits") = some (.ref tl) ∧ m (Str.ofString "rows") = some (.ref l) ∧ (0 < i → fitsM A0 W0 rows = true) ∧ (1 < i → fitsM A1 W1 rows = true) ∧ (2 < i → fitsF A2 W2 none 0 rows = true)
set_option maxHeartbeats 4000000 in
theorem law_every_ok (B : Below A₀ base outer h₀) (F : Fr h₀ L s.heap m) (X : (kd.heap_1 w.params).In h₀) (N : News h₀ L s.heap news) (T : Top p loose mean mg mb h₀) (hk : cs.kind = .function) (hdp : dp ≤ 930) (hun : un ≤ 9380) {l tl a0 a1 a2 : Addr} {vs : List Value} {nn n1 n2 n3 n4 : Nat} {rows : List Row} {v0 v1 v2 : Value} {A0 W0 A1 W1 A2 W2 : Int} {t0 u0 t1 u1 t2 u2 : Tok}
   (hl : (l, listOf vs.toArray nn) ∈ news) (hr : RowsAre news vs rows) (hb : rows.length ≤ 1000)
   (hL : (tl, tup [.ref a0, .ref a1, .ref a2] n1) ∈ news) (h0 : (a0, tup [v0, .int A0 t0, .int W0 u0] n2) ∈ news) (h1 : (a1, tup [v1, .int A1 t1, .int W1 u1] n3) ∈ news) (h2 : (a2, tup [v2, .int A2 t2, .int W2 u2] n4) ∈ news)
   (ret : ∀ h' tk', Fr h₀ L h' m → News h₀ L h' news → Q (.bool (fitsM A0 W0 rows && fitsM A1 W1 rows && fitsF A2 W2 none 0 rows)) { s with heap := h', toks := tk'}) :
   wpAny (model prog w) (ktrTop dp un gd cn cs L a ccd cl outer) (call (.ref 739) [.ref tl, .ref l]) Q E s := by
  k_steps
  unfold Stop
  rename IsRange _ _ _ _ _ _ _ _ => R1
  rename Fr _ _ _ _ => F1
  rename News _ _ _ _ => N1
  refine iter_rangeJ (n := 3) (EvJ tl l A0 W0 A1 W1 A2 W2 rows news) rfl R1 rfl (by decide) F1 N1 ⟨rfl, rfl, rfl, by omega, by omega, by omega⟩ ?turn ?done
  case done =>
    rintro m₁ nx h tk ⟨rfl, e1, e2, f0, f1, f2⟩ F2 N2
    clear F1 N1 R1
    k_steps
    rw [f0 (by omega), f1 (by omega), f2 (by omega)] at ret
    exact ret _ _ (by assumption) (by assumption)
  case turn =>
    rintro i t m₁ nx h tk own hi hoff ⟨rfl, e1, e2, f0, f1, f2⟩ F2 N2
    clear F1 N1 R1
    replace F2 := Fr.see1 F2 [(Str.ofString "limits", .ref tl), (Str.ofString "rows", .ref l)] (by simp [e1, e2])
    dsimp only [seen] at F2
    obtain rfl | rfl | rfl : i = 0 ∨ i = 1 ∨ i = 2 := by omega
    · k_steps
      · rename fits _ _ _ _ = true => hf
        replace hf : fitsM A0 W0 rows = true := hf
        exact InvEndG.intro (nx := nx) (by assumption) (by assumption) ⟨rfl, rfl, rfl, fun _ => hf, fun h => by omega, fun h => by omega⟩ (by exact hoff) (by exact fun p hp => mem_left hp) (by exact fun p hp => mem_right hp)
      · rename fits _ _ _ _ = false => hf
        replace hf : fitsM A0 W0 rows = false := hf
        rw [hf] at ret
        simp only [Bool.and_false, Bool.false_and] at ret
        exact ret _ _ (by assumption) (cb_drop (by assumption) fun p hp => mem_left hp)
    · k_steps
      · rename fits _ _ _ _ = true => hf
        replace hf : fitsM A1 W1 rows = true := hf
        exact InvEndG.intro (nx := nx) (by assumption) (by assumption) ⟨rfl, rfl, rfl, fun _ => f0 (by omega), fun _ => hf, fun h => by omega⟩ (by exact hoff) (by exact fun p hp => mem_left hp) (by exact fun p hp => mem_right hp)
      · rename fits _ _ _ _ = false => hf
        replace hf : fitsM A1 W1 rows = false := hf
        rw [hf] at ret
        simp only [Bool.and_false, Bool.false_and] at ret
        exact ret _ _ (by assumption) (cb_drop (by assumption) fun p hp => mem_left hp)
    · k_steps
      · rename fits _ _ _ _ = true => hf
        replace hf : fitsF A2 W2 none 0 rows = true := hf
        exact InvEndG.intro (nx := nx) (by assumption) (by assumption) ⟨rfl, rfl, rfl, fun _ => f0 (by omega), fun _ => f1 (by omega), fun _ => hf⟩ (by exact hoff) (by exact fun p hp => mem_left hp) (by exact fun p hp => mem_right hp)
      · rename fits _ _ _ _ = false => hf
        replace hf : fitsF A2 W2 none 0 rows = false := hf
        rw [hf] at ret
        simp only [Bool.and_false, Bool.false_and] at ret
        exact ret _ _ (by assumption) (cb_drop (by assumption) fun p hp => mem_left hp)
end
end
section
open Lean PySem PySem.Calls PySem.W PyProof.Rows PyProof.V PySem.Spec PyProof.Rows.LCg
local macro_rules | `(tactic| walk_at $s:str) => `(tactic| k_extra $(Lean.Syntax.mkStrLit ("B1 " ++ s.getString)))
section
variable {prog : Program} {w : World} {p : Program} {loose : List Str} {mean : ExcName → Option Value} {mg mb : Str → Option Value} {dp un : Nat} {gd : Option (List Code)} {cn : Str} {cs : Scope} {a : Addr} {ccd : Value} {cl : List (Str × Addr)} {outer : List Env} {A₀ : Around} {base h₀ : Heap} {L : Addr} {m : Str → Option Value} {news : List (Addr × Obj)} {s : Shared} {Q E : Value → Shared → Prop}
theorem ln_B1_1 : True := by
  try walk1
  k_with "B1 k:k_room" => k_extra "ln 0"
  k_with "B1 k:k_enter" => k_extra "ln 1"
  k_with "B1 my_mem" => k_extra "ln 2"
  k_with "B1 k:k_mem" => k_extra "ln 3"
  k_with "B1 my_split" => k_extra "ln 4"
  k_with "B1 my_ltf" => k_extra "ln 5"
  k_with "B1 k:k_ne" => k_extra "ln 6"
  k_with "B1 my_reord" => k_extra "ln 7"
  k_with "B1 my_all" => k_extra "ln 8"
  k_with "B1 k:k_all" => k_extra "ln 9"
  k_with "B1 call builtin:len" => k_extra "ln 10"
  k_with "B1 subscriptTail" => k_extra "ln 11"
  k_with "B1 subscriptTail Name Name ref int" => k_extra "ln 11"
  k_with "B1 subscriptTail" => k_extra "ln 12"
  k_with "B1 subscriptTail Name Slice ref ref" => k_extra "ln 12"
  k_with "B1 call builtin:sum" => k_extra "ln 13"
  k_with "B1 my_rows" => k_extra "ln 15"
  k_with "B1 my_room" => k_extra "ln 16"
  k_with "B1 my_ctx" => k_extra "ln 17"
  k_with "B1 my_ctx0" => k_extra "ln 18"
  k_with "ln 22" => (first | kto_obj | exact kto_K (by k_in) (by assumption))
  k_with "B1 my_obj" => k_extra "ln 22"
  k_with "ln 23" => ((k_here; (with_reducible show wpAny _ _ (call (Value.type "type") [Value.ref _]) _ _ _); k_dflt (refine' type_own ?z23xa ?z23xc ?_; (case z23xa => walk_at "my_obj"); (case z23xc => exact rfl); k_whole)))
  k_with "B1 call type:type" => k_extra "ln 23"
  k_with "ln 24" => ((k_here; k_dflt (refine' call_issub ?z24xX ?z24xa ?z24xb ?_; (case z24xX => k_in); (case z24xa => k_is); (case z24xb => k_is); k_whole)))
  k_with "B1 call builtin:issubclass" => k_extra "ln 24"
  k_with "ln 25" => ((k_here; k_dflt (refine' call_tup_item ?z25xX ?z25xo ?z25xc ?z25xd ?z25xm ?z25xlo ?z25xhi ?z25xk ?z25xy ?_; (case z25xX => k_in); (case z25xo => walk_at "my_obj"); (case z25xc => exact rfl); (case z25xd => exact rfl); (case z25xm => k_is); (case z25xlo => decide); (case z25xhi => decide); (case z25xk => exact rfl); (case z25xy => exact rfl); k_whole)))
  k_with "B1 call builtin:tuple.__getitem__" => k_extra "ln 25"
  k_with "ln 26" => ((k_here; refine' method_type ?z26xF ?z26xX ?z26xm (by decide +kernel) ?z26xe ?z26xh ?_; (case z26xF => k_asm); (case z26xX => k_asm); (case z26xm => exact kitMeta_of (by decide +kernel)); (case z26xe => k_dflt k_is); (case z26xh => k_handed)))
  k_with "B1 getMethod type:tuple" => k_extra "ln 26"
  trivial

set_option maxHeartbeats 4000000 in
theorem tg_sec_ok (B : Below A₀ base outer h₀) (F : Fr h₀ L s.heap m) (X : (kd.heap_1 w.params).In h₀) (N : News h₀ L s.heap news) (T : Top p loose mean mg mb h₀) (hk : cs.kind = .function) (hdp : dp ≤ 950) (hun : un ≤ 9500) {x dx : Addr} {sec : Int} {tk0 : Tok} {nm : Value} {n0 : Nat} {sl : Array (Option Value)}
   (hx : (kd.heap_1 w.params).lookup x = some ⟨.ref 361, some dx, .seq #[.int sec tk0, nm] n0, sl⟩)
   (ret : ∀ h' tk', Fr h₀ L h' m → News h₀ L h' news → Q (.int sec tk0) { s with heap := h', toks := tk'}) :
   wpAny (model prog w) (ktrTop dp un gd cn cs L a ccd cl outer) (call (.ref 265) [.ref 353, .ref x, .ref 361]) Q E s := by
  k_steps
  exact ret _ _ (by assumption) (by assumption)
set_option maxHeartbeats 4000000 in
theorem tg_nm_ok (B : Below A₀ base outer h₀) (F : Fr h₀ L s.heap m) (X : (kd.heap_1 w.params).In h₀) (N : News h₀ L s.heap news) (T : Top p loose mean mg mb h₀) (hk : cs.kind = .function) (hdp : dp ≤ 950) (hun : un ≤ 9500) {x dx : Addr} {sec : Value} {nm : Str} {tk0 : Tok} {n0 : Nat} {sl : Array (Option Value)}
   (hx : (kd.heap_1 w.params).lookup x = some ⟨.ref 361, some dx, .seq #[sec, .str nm tk0] n0, sl⟩)
   (ret : ∀ h' tk', Fr h₀ L h' m → News h₀ L h' news → Q (.str nm tk0) { s with heap := h', toks := tk'}) :
   wpAny (model prog w) (ktrTop dp un gd cn cs L a ccd cl outer) (call (.ref 265) [.ref 356, .ref x, .ref 361]) Q E s := by
  k_steps
  exact ret _ _ (by assumption) (by assumption)
theorem ItemIn.mono {w : World} {n n' : List (Addr × Obj)} {it C : Addr} {amt mul : Int} (h : ItemIn w n it C amt mul) (hs : ∀ p ∈ n, p ∈ n') : ItemIn w n' it C amt mul :=
  let ⟨d, ka, kb, kc, ta, tb, h1, h2⟩ := h; ⟨d, ka, kb, kc, ta, tb, hs _ h1, hs _ h2⟩
/-- the six kinds of limit: the class, its granularity, the seconds, the name -/
inductive Kind : Addr → Addr → Int → Str → Prop
  | second : Kind 531 528 1 (Str.ofString "second")
  | minute : Kind 514 511 60 (Str.ofString "minute")
  | hour : Kind 497 494 3600 (Str.ofString "hour")
  | day : Kind 480 477 86400 (Str.ofString "day")
  | month : Kind 463 460 2592000 (Str.ofString "month")
  | year : Kind 446 443 31104000 (Str.ofString "year")
theorem Kind.gran {P : Params} {C g : Addr} {sec : Int} {nm : Str} (h : Kind C g sec nm) : ∃ (dx : Addr) (tk0 tn : Tok) (n0 : Nat) (sl : Array (Option Value)), (kd.heap_1 P).lookup g = some ⟨.ref 361, some dx, .seq #[.int sec tk0, .str nm tn] n0, sl⟩ := by
  cases h <;> exact ⟨_, _, _, _, _, by k_is⟩
theorem Kind.sec_pos {C g : Addr} {sec : Int} {nm : Str} (h : Kind C g sec nm) : 1 ≤ sec ∧ sec ≤ 31104000 := by
  cases h <;> decide
theorem gran_dict {P : Params} {C g : Addr} {sec : Int} {nm : Str} (h : Kind C g sec nm) : ∃ (dx : Addr) (od : Obj) (tk0 tn : Tok) (n0 : Nat) (sl : Array (Option Value)), (kd.heap_1 P).lookup g = some ⟨.ref 361, some dx, .seq #[.int sec tk0, .str nm tn] n0, sl⟩ ∧ (kd.heap_1 P).lookup dx = some od := by
  cases h <;> exact ⟨_, _, _, _, _, _, by k_is, by k_is⟩
set_option maxHeartbeats 4000000 in
theorem gran_sec_ok (B : Below A₀ base outer h₀) (F : Fr h₀ L s.heap m) (X : (kd.heap_1 w.params).In h₀) (N : News h₀ L s.heap news) (T : Top p loose mean mg mb h₀) (hk : cs.kind = .function) (hdp : dp ≤ 940) (hun : un ≤ 9440) {C g : Addr} {sec : Int} {nm : Str} {expr : Bool} (hK : Kind C g sec nm)
   (ret : ∀ h' tk' t, Fr h₀ L h' m → News h₀ L h' news → Q (.int sec t) { s with heap := h', toks := tk'}) :
   wpAny (model prog w) (ktrTop dp un gd cn cs L a ccd cl outer) (getAttr (.ref g) (Str.ofString "seconds") expr) Q E s := by
  obtain ⟨dx, od, tk0, tn, n0, sl, e1, e2⟩ := gran_dict (P := w.params) hK
  have X' := X.keeps F.keep
  refine tup_attr (f := 265) (a := .ref 353) (od := some od) (C := 361) X' ⟨X' _ _ e1, rfl, rfl, X' _ _ e2⟩ (by k_is) (by k_is) (findObj_data (show isClsIn _ _ = true by k_is) (by k_is) (by k_is) (by k_is)) (by k_is) fun E' => ?_
  refine tg_sec_ok (dp := dp) (un := un + 1) (s := { s with toks := s.toks + 1 }) B F X N T hk (by omega) (by omega) e1 fun h' tk' F' N' => ?_
  exact handed_on rfl (ret _ _ _ F' N')
set_option maxHeartbeats 4000000 in
theorem gran_nm_ok (B : Below A₀ base outer h₀) (F : Fr h₀ L s.heap m) (X : (kd.heap_1 w.params).In h₀) (N : News h₀ L s.heap news) (T : Top p loose mean mg mb h₀) (hk : cs.kind = .function) (hdp : dp ≤ 940) (hun : un ≤ 9440) {C g : Addr} {sec : Int} {nm : Str} {expr : Bool} (hK : Kind C g sec nm)
   (ret : ∀ h' tk' t, Fr h₀ L h' m → News h₀ L h' news → Q (.str nm t) { s with heap := h', toks := tk'}) :
   wpAny (model prog w) (ktrTop dp un gd cn cs L a ccd cl outer) (getAttr (.ref g) (Str.ofString "name") expr) Q E s := by
  obtain ⟨dx, od, tk0, tn, n0, sl, e1, e2⟩ := gran_dict (P := w.params) hK
  have X' := X.keeps F.keep
  refine tup_attr (f := 265) (a := .ref 356) (od := some od) (C := 361) X' ⟨X' _ _ e1, rfl, rfl, X' _ _ e2⟩ (by k_is) (by k_is) (findObj_data (show isClsIn _ _ = true by k_is) (by k_is) (by k_is) (by k_is)) (by k_is) fun E' => ?_
  refine tg_nm_ok (dp := dp) (un := un + 1) (s := { s with toks := s.toks + 1 }) B F X N T hk (by omega) (by omega) e1 fun h' tk' F' N' => ?_
  exact handed_on rfl (ret _ _ _ F' N')
theorem item_gran (F : Fr h₀ L s.heap m) (X : (kd.heap_1 w.params).In h₀) (N : News h₀ L s.heap news) {A : Around} {it C g : Addr} {sec amt mul : Int} {nm : Str} {expr : Bool} (hi : ItemIn w news it C amt mul) (hK : Kind C g sec nm) (h : ∀ t, Q (.ref g) { s with toks := t }) :
    wpAny (model prog w) A (getAttr (.ref it) (Str.ofString "GRANULARITY") expr) Q E s := by
  obtain ⟨d, ka, kb, kc, ta, tb, h1, h2⟩ := hi
  cases hK <;>
  · k_steps
    exact h _
theorem item_mult (F : Fr h₀ L s.heap m) (X : (kd.heap_1 w.params).In h₀) (N : News h₀ L s.heap news) {A : Around} {it C g : Addr} {sec amt mul : Int} {nm : Str} {expr : Bool} (hi : ItemIn w news it C amt mul) (hK : Kind C g sec nm) (h : ∀ t u, Q (.int mul u) { s with toks := t }) :
    wpAny (model prog w) A (getAttr (.ref it) (Str.ofString "multiples") expr) Q E s := by
  obtain ⟨d, ka, kb, kc, ta, tb, h1, h2⟩ := hi
  cases hK <;>
  · k_steps
    exact h _ _
theorem item_amount (F : Fr h₀ L s.heap m) (X : (kd.heap_1 w.params).In h₀) (N : News h₀ L s.heap news) {A : Around} {it C g : Addr} {sec amt mul : Int} {nm : Str} {expr : Bool} (hi : ItemIn w news it C amt mul) (hK : Kind C g sec nm) (h : ∀ t u, Q (.int amt u) { s with toks := t }) :
    wpAny (model prog w) A (getAttr (.ref it) (Str.ofString "amount") expr) Q E s := by
  obtain ⟨d, ka, kb, kc, ta, tb, h1, h2⟩ := hi
  cases hK <;>
  · k_steps
    exact h _ _
theorem item_ns (F : Fr h₀ L s.heap m) (X : (kd.heap_1 w.params).In h₀) (N : News h₀ L s.heap news) {A : Around} {it C g : Addr} {sec amt mul : Int} {nm : Str} {expr : Bool} (hi : ItemIn w news it C amt mul) (hK : Kind C g sec nm) (h : ∀ t, Q (.str (Str.ofString "LIMITER") 718) { s with toks := t }) :
    wpAny (model prog w) A (getAttr (.ref it) (Str.ofString "namespace") expr) Q E s := by
  obtain ⟨d, ka, kb, kc, ta, tb, h1, h2⟩ := hi
  cases hK <;>
  · k_steps
    exact h _
theorem item_m_key_for (F : Fr h₀ L s.heap m) (X : (kd.heap_1 w.params).In h₀) (N : News h₀ L s.heap news) {A : Around} {it C g : Addr} {sec amt mul : Int} {nm : Str} {pl : Sem Bool} {Q : Value × List Value → Shared → Prop} (hi : ItemIn w news it C amt mul) (hK : Kind C g sec nm) (h : Q (.ref 403, [.ref it]) s) :
    wpAny (model prog w) A (getMethod (.ref it) (Str.ofString "key_for") pl) Q E s := by
  obtain ⟨d, ka, kb, kc, ta, tb, h1, h2⟩ := hi
  cases hK <;>
  · k_steps
    exact h
theorem item_m_get_expiry (F : Fr h₀ L s.heap m) (X : (kd.heap_1 w.params).In h₀) (N : News h₀ L s.heap news) {A : Around} {it C g : Addr} {sec amt mul : Int} {nm : Str} {pl : Sem Bool} {Q : Value × List Value → Shared → Prop} (hi : ItemIn w news it C amt mul) (hK : Kind C g sec nm) (h : Q (.ref 396, [.ref it]) s) :
    wpAny (model prog w) A (getMethod (.ref it) (Str.ofString "get_expiry") pl) Q E s := by
  obtain ⟨d, ka, kb, kc, ta, tb, h1, h2⟩ := hi
  cases hK <;>
  · k_steps
    exact h
end
end
section
open Lean PySem PySem.Calls PySem.W PyProof.Rows PyProof.V PySem.Spec PyProof.Rows.LCg
local macro_rules | `(tactic| walk_at $s:str) => `(tactic| k_extra $(Lean.Syntax.mkStrLit ("B2 " ++ s.getString)))
local macro_rules | `(tactic| walk_at "none") => `(tactic| fail)
section
variable {prog : Program} {w : World} {p : Program} {loose : List Str} {mean : ExcName → Option Value} {mg mb : Str → Option Value} {dp un : Nat} {gd : Option (List Code)} {cn : Str} {cs : Scope} {a : Addr} {ccd : Value} {cl : List (Str × Addr)} {outer : List Env} {A₀ : Around} {base h₀ : Heap} {L : Addr} {m : Str → Option Value} {news : List (Addr × Obj)} {s : Shared} {Q E : Value → Shared → Prop}
theorem ln_B2_1 : True := by
  try walk1
  k_with "B2 k:k_room" => k_extra "ln 0"
  k_with "B2 k:k_enter" => k_extra "ln 1"
  k_with "B2 my_mem" => k_extra "ln 2"
  k_with "B2 k:k_mem" => k_extra "ln 3"
  k_with "B2 my_split" => k_extra "ln 4"
  k_with "B2 my_ltf" => k_extra "ln 5"
  k_with "B2 k:k_ne" => k_extra "ln 6"
  k_with "B2 my_reord" => k_extra "ln 7"
  k_with "B2 my_all" => k_extra "ln 8"
  k_with "B2 k:k_all" => k_extra "ln 9"
  k_with "B2 call builtin:len" => k_extra "ln 10"
  k_with "B2 subscriptTail" => k_extra "ln 11"
  k_with "B2 subscriptTail Name Name ref int" => k_extra "ln 11"
  k_with "B2 subscriptTail" => k_extra "ln 12"
  k_with "B2 subscriptTail Name Slice ref ref" => k_extra "ln 12"
  k_with "B2 call builtin:sum" => k_extra "ln 13"
  k_with "B2 my_rows" => k_extra "ln 15"
  k_with "B2 my_room" => k_extra "ln 16"
  k_with "B2 my_ctx" => k_extra "ln 17"
  k_with "B2 my_ctx0" => k_extra "ln 18"
  k_with "ln 27" => (first | assumption | exact ItemIn.mono (by assumption) (by intro p hp; k_mem))
  k_with "B2 my_item" => k_extra "ln 27"
  k_with "ln 28" => ((k_here; (with_reducible show wpAny _ _ (getAttr _ (Str.ofString "GRANULARITY") _) _ _ _); k_dflt (refine' item_gran ?z28xF ?z28xX ?z28xN ?z28xi ?z28xk ?_; (case z28xF => k_asm); (case z28xX => k_asm); (case z28xN => k_asm); (case z28xi => walk_at "my_item"); (case z28xk => assumption); k_whole); intro t'q))
  k_with "B2 getAttr ref" => k_extra "ln 28"
  k_with "ln 29" => ((k_here; (with_reducible show wpAny _ _ (getAttr _ (Str.ofString "seconds") _) _ _ _); k_dflt (refine' gran_sec_ok ?zcB ?zcF ?zcX ?zcN ?zcT ?zchk ?zcdp ?zcun ?z29xk ?_; (walk_at "my_ctx"); (case z29xk => assumption); k_whole); intro h'q tk'q t'q F'q N'q))
  k_with "B2 getAttr ref" => k_extra "ln 29"
  k_with "ln 30" => ((k_here; (with_reducible show wpAny _ _ (getAttr _ (Str.ofString "name") _) _ _ _); k_dflt (refine' gran_nm_ok ?zcB ?zcF ?zcX ?zcN ?zcT ?zchk ?zcdp ?zcun ?z30xk ?_; (walk_at "my_ctx"); (case z30xk => assumption); k_whole); intro h'q tk'q t'q F'q N'q))
  k_with "B2 getAttr ref" => k_extra "ln 30"
  k_with "ln 31" => ((k_here; (with_reducible show wpAny _ _ (getAttr _ (Str.ofString "multiples") _) _ _ _); k_dflt (refine' item_mult ?z31xF ?z31xX ?z31xN ?z31xi ?z31xk ?_; (case z31xF => k_asm); (case z31xX => k_asm); (case z31xN => k_asm); (case z31xi => walk_at "my_item"); (case z31xk => assumption); k_whole); intro t'q u'q))
  k_with "B2 getAttr ref" => k_extra "ln 31"
  k_with "ln 32" => ((k_here; (with_reducible show wpAny _ _ (getAttr _ (Str.ofString "amount") _) _ _ _); k_dflt (refine' item_amount ?z32xF ?z32xX ?z32xN ?z32xi ?z32xk ?_; (case z32xF => k_asm); (case z32xX => k_asm); (case z32xN => k_asm); (case z32xi => walk_at "my_item"); (case z32xk => assumption); k_whole); intro t'q u'q))
  k_with "B2 getAttr ref" => k_extra "ln 32"
  k_with "ln 33" => ((k_here; (with_reducible show wpAny _ _ (getAttr _ (Str.ofString "namespace") _) _ _ _); k_dflt (refine' item_ns ?z33xF ?z33xX ?z33xN ?z33xi ?z33xk ?_; (case z33xF => k_asm); (case z33xX => k_asm); (case z33xN => k_asm); (case z33xi => walk_at "my_item"); (case z33xk => assumption); k_whole); intro t'q))
  k_with "B2 getAttr ref" => k_extra "ln 33"
  k_with "ln 34" => ((k_here; (with_reducible show wpAny _ _ (getMethod _ (Str.ofString "key_for") _) _ _ _); k_dflt (refine' item_m_key_for ?z34xF ?z34xX ?z34xN ?z34xi ?z34xk ?_; (case z34xF => k_asm); (case z34xX => k_asm); (case z34xN => k_asm); (case z34xi => walk_at "my_item"); (case z34xk => assumption); k_whole)))
  k_with "B2 getMethod ref" => k_extra "ln 34"
  k_with "ln 35" => ((k_here; (with_reducible show wpAny _ _ (getMethod _ (Str.ofString "get_expiry") _) _ _ _); k_dflt (refine' item_m_get_expiry ?z35xF ?z35xX ?z35xN ?z35xi ?z35xk ?_; (case z35xF => k_asm); (case z35xX => k_asm); (case z35xN => k_asm); (case z35xi => walk_at "my_item"); (case z35xk => assumption); k_whole)))
  k_with "B2 getMethod ref" => k_extra "ln 35"
  trivial

set_option maxHeartbeats 4000000 in
theorem get_expiry_ok (B : Below A₀ base outer h₀) (F : Fr h₀ L s.heap m) (X : (kd.heap_1 w.params).In h₀) (N : News h₀ L s.heap news) (T : Top p loose mean mg mb h₀) (hk : cs.kind = .function) (hdp : dp ≤ 930) (hun : un ≤ 9380) {it C g : Addr} {sec amt mul : Int} {nm : Str}
   (hi : ItemIn w news it C amt mul) (hK : Kind C g sec nm) (hm : 1 ≤ mul) (hm' : mul ≤ 5)
   (ret : ∀ h' tk' t, Fr h₀ L h' m → News h₀ L h' news → Q (.int (sec * mul) t) { s with heap := h', toks := tk'}) :
   wpAny (model prog w) (ktrTop dp un gd cn cs L a ccd cl outer) (call (.ref 396) [.ref it]) Q E s := by
  have hi0 := hi
  obtain ⟨d, ka, kb, kc, ta, tb, h1, h2⟩ := hi0
  k_steps
  exact ret _ _ _ (by assumption) (by assumption)
set_option maxHeartbeats 4000000 in
theorem safe_int_ok (B : Below A₀ base outer h₀) (F : Fr h₀ L s.heap m) (X : (kd.heap_1 w.params).In h₀) (N : News h₀ L s.heap news) (T : Top p loose mean mg mb h₀) (hk : cs.kind = .function) (hdp : dp ≤ 950) (hun : un ≤ 9500) {n : Int} {t0 : Tok} (h0 : 0 ≤ n) (h1 : n < 100)
   (ret : ∀ h' tk' t, Fr h₀ L h' m → News h₀ L h' news → Q (.str (Str.ofString (toString n)) t) { s with heap := h', toks := tk'}) :
   wpAny (model prog w) (ktrTop dp un gd cn cs L a ccd cl outer) (call (.ref 293) [.int n t0]) Q E s := by
  k_steps
  exact ret _ _ _ (by assumption) (by assumption)
set_option maxHeartbeats 4000000 in
theorem safe_str_ok (B : Below A₀ base outer h₀) (F : Fr h₀ L s.heap m) (X : (kd.heap_1 w.params).In h₀) (N : News h₀ L s.heap news) (T : Top p loose mean mg mb h₀) (hk : cs.kind = .function) (hdp : dp ≤ 950) (hun : un ≤ 9500) {x : Str} {t0 : Tok} 
   (ret : ∀ h' tk' t, Fr h₀ L h' m → News h₀ L h' news → Q (.str x t) { s with heap := h', toks := tk'}) :
   wpAny (model prog w) (ktrTop dp un gd cn cs L a ccd cl outer) (call (.ref 293) [.str x t0]) Q E s := by
  k_steps
  exact ret _ _ _ (by assumption) (by assumption)
end
end
section
open Lean PySem PySem.Calls PySem.W PyProof.Rows PyProof.V PySem.Spec PyProof.Rows.LCg
local macro_rules | `(tactic| walk_at $s:str) => `(tactic| k_extra $(Lean.Syntax.mkStrLit ("B3 " ++ s.getString)))
section
variable {prog : Program} {w : World} {p : Program} {loose : List Str} {mean : ExcName → Option Value} {mg mb : Str → Option Value} {dp un : Nat} {gd : Option (List Code)} {cn : Str} {cs : Scope} {a : Addr} {ccd : Value} {cl : List (Str × Addr)} {outer : List Env} {A₀ : Around} {base h₀ : Heap} {L : Addr} {m : Str → Option Value} {news : List (Addr × Obj)} {s : Shared} {Q E : Value → Shared → Prop}
theorem ln_B3_1 : True := by
  try walk1
  k_with "B3 k:k_room" => k_extra "ln 0"
  k_with "B3 k:k_enter" => k_extra "ln 1"
  k_with "B3 my_mem" => k_extra "ln 2"
  k_with "B3 k:k_mem" => k_extra "ln 3"
  k_with "B3 my_split" => k_extra "ln 4"
  k_with "B3 my_ltf" => k_extra "ln 5"
  k_with "B3 k:k_ne" => k_extra "ln 6"
  k_with "B3 my_reord" => k_extra "ln 7"
  k_with "B3 my_all" => k_extra "ln 8"
  k_with "B3 k:k_all" => k_extra "ln 9"
  k_with "B3 call builtin:len" => k_extra "ln 10"
  k_with "B3 subscriptTail" => k_extra "ln 11"
  k_with "B3 subscriptTail Name Name ref int" => k_extra "ln 11"
  k_with "B3 subscriptTail" => k_extra "ln 12"
  k_with "B3 subscriptTail Name Slice ref ref" => k_extra "ln 12"
  k_with "B3 call builtin:sum" => k_extra "ln 13"
  k_with "B3 my_rows" => k_extra "ln 15"
  k_with "B3 my_room" => k_extra "ln 16"
  k_with "B3 my_ctx" => k_extra "ln 17"
  k_with "B3 my_ctx0" => k_extra "ln 18"
  k_with "B3 my_item" => k_extra "ln 27"
  k_with "B3 getAttr ref" => k_extra "ln 28"
  k_with "B3 getAttr ref" => k_extra "ln 29"
  k_with "B3 getAttr ref" => k_extra "ln 30"
  k_with "B3 getAttr ref" => k_extra "ln 31"
  k_with "B3 getAttr ref" => k_extra "ln 32"
  k_with "B3 getAttr ref" => k_extra "ln 33"
  k_with "B3 getMethod ref" => k_extra "ln 34"
  k_with "B3 getMethod ref" => k_extra "ln 35"
  k_with "B3 eval ListComp" => k_extra "ln 14"
  k_with "B3 pyIter ref" => k_extra "ln 14"
  k_with "ln 36" => ((k_here; (with_reducible show wpAny _ _ (call (Value.ref 293) [Value.int _ _]) _ _ _); k_dflt (refine' safe_int_ok ?zcB ?zcF ?zcX ?zcN ?zcT ?zchk ?zcdp ?zcun ?z36xa ?z36xb ?_; (walk_at "my_ctx"); (case z36xa => omega); (case z36xb => omega); k_whole); intro h'q tk'q t'q F'q N'q))
  k_with "B3 call ref" => k_extra "ln 36"
  k_with "ln 37" => ((k_here; (with_reducible show wpAny _ _ (call (Value.ref 293) [Value.str _ _]) _ _ _); k_dflt (refine' safe_str_ok ?zcB ?zcF ?zcX ?zcN ?zcT ?zchk ?zcdp ?zcun ?_; (walk_at "my_ctx"); k_whole); intro h'q tk'q t'q F'q N'q))
  k_with "B3 call ref" => k_extra "ln 37"
  trivial

theorem int_len {n : Int} (h0 : 0 ≤ n) (h1 : n < 100) : (Str.ofString (toString n)).length ≤ 3 := by
  rw [PySem.ofString_length]; exact int_text_length_le10 (k := 2) (by decide) (by omega)
theorem Kind.nm_len {C g : Addr} {sec : Int} {nm : Str} (h : Kind C g sec nm) : nm.length ≤ 6 := by
  cases h <;> decide +kernel
abbrev keyParts (n amt mul : Int) (nm : Str) : List Str := [Str.ofString "ann", Str.ofString (toString n), Str.ofString (toString amt), Str.ofString (toString mul), nm]
theorem key_weight {C g : Addr} {sec n amt mul : Int} {nm : Str} (hK : Kind C g sec nm) (h0 : 0 ≤ n) (h1 : n ≤ 63) (a0 : 1 ≤ amt) (a1 : amt ≤ 9) (b0 : 1 ≤ mul) (b1 : mul ≤ 5) : ((keyParts n amt mul nm).map (·.length)).sum + (keyParts n amt mul nm).length ≤ 1048576 := by
  have e1 := int_len (n := n) h0 (by omega)
  have e2 := int_len (n := amt) (by omega) (by omega)
  have e3 := int_len (n := mul) (by omega) (by omega)
  have e4 := hK.nm_len
  have e5 : (Str.ofString "ann").length = 3 := by decide +kernel
  simp only [List.map_cons, List.map_nil, List.sum_cons, List.sum_nil, List.length_cons, List.length_nil]
  omega
theorem key_len {C g : Addr} {sec n amt mul : Int} {nm : Str} (hK : Kind C g sec nm) (h0 : 0 ≤ n) (h1 : n ≤ 63) (a0 : 1 ≤ amt) (a1 : amt ≤ 9) (b0 : 1 ≤ mul) (b1 : mul ≤ 5) : (Txt.join (Str.ofString "/") (keyParts n amt mul nm)).length ≤ 1048576 := by
  have := StrLaws.join_length_le (Str.ofString "/") (keyParts n amt mul nm)
  have e5 : (Str.ofString "/").length = 1 := by decide +kernel
  rw [e5] at this
  have := key_weight hK h0 h1 a0 a1 b0 b1
  have e6 : Txt.join (Str.ofString "/") (keyParts n amt mul nm) = Str.join (Str.ofString "/") (keyParts n amt mul nm) := StrLaws.glued_eq_join _ _
  rw [e6]
  omega
def keyStr (n amt mul : Int) (nm : Str) : Str := Str.empty ++ Str.ofString "LIMITER" ++ Str.ofString "/" ++ Txt.join (Str.ofString "/") (keyParts n amt mul nm)
theorem digit_cps {a : Int} (h0 : 1 ≤ a) (h1 : a ≤ 9) : (Str.ofString (toString a)).cps.toList = [48 + a.toNat] := by
  obtain rfl | rfl | rfl | rfl | rfl | rfl | rfl | rfl | rfl : a = 1 ∨ a = 2 ∨ a = 3 ∨ a = 4 ∨ a = 5 ∨ a = 6 ∨ a = 7 ∨ a = 8 ∨ a = 9 := by omega
  all_goals decide +kernel
theorem key_cps {n amt mul : Int} {nm : Str} (h0 : 1 ≤ amt) (h1 : amt ≤ 9) : ∃ r, (keyStr n amt mul nm).cps.toList = ((Str.empty ++ Str.ofString "LIMITER" ++ Str.ofString "/").cps.toList ++ ((Str.ofString "ann").cps.toList ++ ((Str.ofString "/").cps.toList ++ ((Str.ofString (toString n)).cps.toList ++ (Str.ofString "/").cps.toList)))) ++ ((48 + amt.toNat) :: r) := by
  unfold keyStr Txt.join
  rw [StrLaws.glued_eq_join]
  simp only [keyParts, Str.join, Str.cps_append, Array.toList_append, digit_cps h0 h1, List.append_assoc, List.cons_append, List.nil_append]
  exact ⟨_, rfl⟩
theorem key_ne {n amt mul amt' mul' : Int} {nm nm' : Str} (h0 : 1 ≤ amt) (h1 : amt ≤ 9) (k0 : 1 ≤ amt') (k1 : amt' ≤ 9) (hne : amt ≠ amt') : keyStr n amt mul nm ≠ keyStr n amt' mul' nm' := by
  intro e
  obtain ⟨r, hr⟩ := key_cps (n := n) (mul := mul) (nm := nm) h0 h1
  obtain ⟨r', hr'⟩ := key_cps (n := n) (mul := mul') (nm := nm') k0 k1
  rw [e, hr'] at hr
  have := List.append_cancel_left hr
  injection this with a b
  omega
set_option maxHeartbeats 4000000 in
theorem key_for_ok (B : Below A₀ base outer h₀) (F : Fr h₀ L s.heap m) (X : (kd.heap_1 w.params).In h₀) (N : News h₀ L s.heap news) (T : Top p loose mean mg mb h₀) (hk : cs.kind = .function) (hdp : dp ≤ 930) (hun : un ≤ 9380) {it C g tn : Addr} {sec amt mul n : Int} {nm : Str} {t1 t2 : Tok} {nn : Nat}
   (hi : ItemIn w news it C amt mul) (hK : Kind C g sec nm) (hm : 1 ≤ mul) (hm' : mul ≤ 5) (ha : 1 ≤ amt) (ha' : amt ≤ 9) (hn0 : 0 ≤ n) (hn1 : n ≤ 63)
   (hn : (tn, ({ cls := .type "tuple", data := .seq #[.str (Str.ofString "ann") t1, .int n t2] nn } : Obj)) ∈ news)
   (ret : ∀ h' tk' t, Fr h₀ L h' m → News h₀ L h' news → Q (.str (keyStr n amt mul nm) t) { s with heap := h', toks := tk'}) :
   wpAny (model prog w) (ktrTop dp un gd cn cs L a ccd cl outer) (call (.ref 403) [.ref it, .ref tn]) Q E s := by
  k_steps
  unfold Stop
  rename Fr _ _ _ _ => F1
  refine comp_tup F1 rfl (by decide) rfl (by decide) rfl ?_
  k_steps
  refine CompTup.intro rfl (by assumption) (by assumption) (by k_mem) (by show 2 ≤ sizeLine; rw [sizeLine_eq]; omega) fun g => ?_
  refine CompRest.succ ?_
  intro v I oI C oC D m₂ h tk E' hv hC hx F5 N5 off ne
  obtain rfl : Value.str (Str.ofString "ann") t1 = v := by simpa using hv
  k_steps
  refine CompEnd.intro (by assumption) (by assumption) news ?sub off (by assumption) ?_
  case sub => exact fun p hp => hp
  refine CompRest.succ ?_
  clear F5 N5 
  intro v I oI C oC D m₂ h tk E' hv hC hx F5 N5 off ne
  obtain rfl : Value.int n t2 = v := by simpa using hv
  k_steps
  refine CompEnd.intro (by assumption) (by assumption) news (fun p hp => hp) off (by assumption) ?_
  refine CompRest.zero ?_
  intro D h tk F6 N6 off6
  clear F5 N5 F1
  dsimp only [List.nil_append, List.cons_append] at N6 ⊢
  k_steps
  rename News _ _ _ _ => N7
  refine join_listW (News.isList N7 (.head _)) (by kct_strs) (by decide +kernel) (key_weight hK hn0 hn1 ha ha' hm hm') ?_
  intro t' k'
  have hRl := key_len hK hn0 hn1 ha ha' hm hm'
  generalize hR : Txt.join (Str.ofString "/") (keyParts n amt mul nm) = R at hRl ⊢
  k_steps
  subst hR
  exact ret _ _ _ (by assumption) (cb_drop (by assumption) fun p hp => by k_mem)
end
end
section
open Lean PySem PySem.Calls PySem.W PyProof.Rows PyProof.V PySem.Spec PyProof.Rows.LCg
local macro_rules | `(tactic| walk_at $s:str) => `(tactic| k_extra $(Lean.Syntax.mkStrLit ("S1 " ++ s.getString)))
local macro_rules | `(tactic| walk_at "none") => `(tactic| fail)
section
variable {prog : Program} {w : World} {p : Program} {loose : List Str} {mean : ExcName → Option Value} {mg mb : Str → Option Value} {dp un : Nat} {gd : Option (List Code)} {cn : Str} {cs : Scope} {a : Addr} {ccd : Value} {cl : List (Str × Addr)} {outer : List Env} {A₀ : Around} {base h₀ : Heap} {L : Addr} {m : Str → Option Value} {news : List (Addr × Obj)} {s : Shared} {Q E : Value → Shared → Prop}
theorem ln_S1_1 : True := by
  try walk1
  k_with "S1 k:k_room" => k_extra "ln 0"
  k_with "S1 k:k_enter" => k_extra "ln 1"
  k_with "S1 my_mem" => k_extra "ln 2"
  k_with "S1 k:k_mem" => k_extra "ln 3"
  k_with "S1 my_split" => k_extra "ln 4"
  k_with "S1 my_ltf" => k_extra "ln 5"
  k_with "S1 k:k_ne" => k_extra "ln 6"
  k_with "S1 my_reord" => k_extra "ln 7"
  k_with "S1 my_all" => k_extra "ln 8"
  k_with "S1 k:k_all" => k_extra "ln 9"
  k_with "S1 call builtin:len" => k_extra "ln 10"
  k_with "S1 subscriptTail" => k_extra "ln 11"
  k_with "S1 subscriptTail Name Name ref int" => k_extra "ln 11"
  k_with "S1 subscriptTail" => k_extra "ln 12"
  k_with "S1 subscriptTail Name Slice ref ref" => k_extra "ln 12"
  k_with "S1 call builtin:sum" => k_extra "ln 13"
  k_with "S1 my_rows" => k_extra "ln 15"
  k_with "S1 my_room" => k_extra "ln 16"
  k_with "S1 my_ctx" => k_extra "ln 17"
  k_with "S1 my_ctx0" => k_extra "ln 18"
  trivial

abbrev nowX : Str := Str.ofString "now"
/-- the clock: a lambda over the cell of a list of one int -/
inductive ClockIn (led : List (Addr × Obj)) (fC : Addr) (t : Int) : Prop
  | mk (name qual : Str) (pm ctv : Value) (c' cN aN : Addr) (oc oN : Obj) (vs : Array Value) (tq tk : Tok) (nn kk : Nat) (p1 p2 p3 : Pos) (q0 : (fC, kla_obj name qual { posonlyargs := [], args := [], vararg := none, kwonlyargs := [], kw_defaults := [], kwarg := none, defaults := [] }
      (PySem.Expr.Subscript (PySem.Expr.Name nowX p1) (PySem.Expr.Constant (Const.int 0) kk p2) p3)
      { kind := ScopeKind.function, names := [(nowX, NameKind.free)], isGenerator := false, isCoroutine := false, more := [] } [(nowX, cN)] pm c' ctv) ∈ led) (q1 : (c', oc) ∈ led) (q2 : oc.data = .fields vs) (q3 : vs[1]? = some (.str qual tq)) (q4 : (cN, oN) ∈ led) (q5 : oN.data = .cell (some (.ref aN))) (q6 : (aN, listOf #[.int t tk] nn) ∈ led) : ClockIn led fC t
theorem ClockIn.mono {n n' : List (Addr × Obj)} {f : Addr} {t : Int} (h : ClockIn n f t) (hs : ∀ p ∈ n, p ∈ n') : ClockIn n' f t := by
  obtain ⟨name, qual, pm, ctv, c', cN, aN, oc, oN, vs, tq, tk, nn, kk, p1, p2, p3, h1, h2, h3, h4, h5, h6, h7⟩ := h
  exact ⟨name, qual, pm, ctv, c', cN, aN, oc, oN, vs, tq, tk, nn, kk, p1, p2, p3, hs _ h1, hs _ h2, h3, h4, hs _ h5, h6, hs _ h7⟩
set_option maxHeartbeats 4000000 in
theorem clock_ok (B : Below A₀ base outer h₀) (F : Fr h₀ L s.heap m) (X : (kd.heap_1 w.params).In h₀) (N : News h₀ L s.heap news) (T : Top p loose mean mg mb h₀) (hk : cs.kind = .function) (hdp : dp ≤ 950) (hun : un ≤ 9500) {fC : Addr} {t : Int} (hc : ClockIn news fC t)
   (ret : ∀ h' tk' u, Fr h₀ L h' m → News h₀ L h' news → Q (.int t u) { s with heap := h', toks := tk'}) :
   wpAny (model prog w) (ktrTop dp un gd cn cs L a ccd cl outer) (call (.ref fC) []) Q E s := by
  obtain ⟨name, qual, pm, ctv, c', cN, aN, oc, oN, vs, tq, tk, nn, kk, p1, p2, p3, h1, h2, h3, h4, h5, h6, h7⟩ := hc
  refine wpAny_call ?_
  k_dflt (refine' kla_code (binds := []) ?k1 ?k2 ?k3 ?k4 ?k5 ?kA ?kF ?kK ?k6 ?k7 ?k8 ?k9 ?kB ?_ ?c2 ?c3 ?c4 ?c5; (case kA => exact rfl); (case kF => exact rfl); (case kK => assumption); (case k1 => k_asm); (case k2 => k_asm); (case k3 => k_asm); (case k4 => k_asm); (case k5 => k_asm); (case k6 => exact h1); (case k7 => exact codeRec_news (by k_asm) h2 h3 h4); (case k8 => k_room); (case k9 => exact rfl); (case c5 => decide); (case kB => exact locs rfl); (case c2 => exact rfl); (case c3 => exact rfl); (case c4 => exact rfl); k_whole; intro g' L' h' FG' F' N' B' X' T'; (try dsimp only))
  refine Subscript_ ?_
  refine' nameX_F (N := by assumption) rfl h5 h6 ?_ rfl rfl
  refine lit_int _ ?_; intro v tk1 hv; obtain ⟨tv, rfl⟩ := hv.int
  k_dflt (refine' item_list_ints (ns := [t]) (heap_list (by k_asm) h7) ?i ?a ?b ?c ?_ ?d ?e; (case i => exact .cons _ _ .nil); (case a => decide); (case b => simp); (case c => decide); (case d => with_unfolding_all rfl); (case e => (intro _; with_unfolding_all rfl)); k_whole)
  intro t'
  k_dflt (refine' leaveK_ F' N' ?_)
  intro kF kN
  exact ret _ _ _ kF kN
end
end
section
open Lean PySem PySem.Calls PySem.W PyProof.Rows PyProof.V PySem.Spec PyProof.Rows.LCg
local macro_rules | `(tactic| walk_at $s:str) => `(tactic| k_extra $(Lean.Syntax.mkStrLit ("S2 " ++ s.getString)))
section
variable {prog : Program} {w : World} {p : Program} {loose : List Str} {mean : ExcName → Option Value} {mg mb : Str → Option Value} {dp un : Nat} {gd : Option (List Code)} {cn : Str} {cs : Scope} {a : Addr} {ccd : Value} {cl : List (Str × Addr)} {outer : List Env} {A₀ : Around} {base h₀ : Heap} {L : Addr} {m : Str → Option Value} {news : List (Addr × Obj)} {s : Shared} {Q E : Value → Shared → Prop}
theorem ln_S2_1 : True := by
  try walk1
  k_with "S2 k:k_room" => k_extra "ln 0"
  k_with "S2 k:k_enter" => k_extra "ln 1"
  k_with "S2 my_mem" => k_extra "ln 2"
  k_with "S2 k:k_mem" => k_extra "ln 3"
  k_with "S2 my_split" => k_extra "ln 4"
  k_with "S2 my_ltf" => k_extra "ln 5"
  k_with "S2 k:k_ne" => k_extra "ln 6"
  k_with "S2 my_reord" => k_extra "ln 7"
  k_with "S2 my_all" => k_extra "ln 8"
  k_with "S2 k:k_all" => k_extra "ln 9"
  k_with "S2 call builtin:len" => k_extra "ln 10"
  k_with "S2 subscriptTail" => k_extra "ln 11"
  k_with "S2 subscriptTail Name Name ref int" => k_extra "ln 11"
  k_with "S2 subscriptTail" => k_extra "ln 12"
  k_with "S2 subscriptTail Name Slice ref ref" => k_extra "ln 12"
  k_with "S2 call builtin:sum" => k_extra "ln 13"
  k_with "S2 my_rows" => k_extra "ln 15"
  k_with "S2 my_room" => k_extra "ln 16"
  k_with "S2 my_ctx" => k_extra "ln 17"
  k_with "S2 my_ctx0" => k_extra "ln 18"
  k_with "S2 my_obj" => k_extra "ln 22"
  k_with "S2 call type:type" => k_extra "ln 23"
  k_with "S2 call builtin:issubclass" => k_extra "ln 24"
  k_with "S2 call builtin:tuple.__getitem__" => k_extra "ln 25"
  k_with "S2 getMethod type:tuple" => k_extra "ln 26"
  trivial

/-- the addresses of the store -/
structure Z where (st ex ev nw self dict clk : Addr)
inductive StoreIn (w : World) (news : List (Addr × Obj)) (z : Z) : Prop
  | mk (ka : _) (kb : _) (kc : _) (kd : _) (q0 : (z.self, instObj 704 z.dict) ∈ news) (q1 : (z.dict, dictOf [ent w "clock" ka (.ref z.clk), ent w "storage" kb (.ref z.st), ent w "expirations" kc (.ref z.ex), ent w "events" kd (.ref z.ev)] 4) ∈ news) : StoreIn w news z
theorem StoreIn.mono {w : World} {n n' : List (Addr × Obj)} {z : Z} (h : StoreIn w n z) (hs : ∀ p ∈ n, p ∈ n') : StoreIn w n' z :=
  let ⟨ka, kb, kc, kd, h1, h2⟩ := h; ⟨ka, kb, kc, kd, hs _ h1, hs _ h2⟩
theorem st_storage (F : Fr h₀ L s.heap m) (X : (kd.heap_1 w.params).In h₀) (N : News h₀ L s.heap news) {A : Around} {z : Z} {expr : Bool} (hi : StoreIn w news z) (h : ∀ t, Q (.ref z.st) { s with toks := t }) :
    wpAny (model prog w) A (getAttr (.ref z.self) (Str.ofString "storage") expr) Q E s := by
  obtain ⟨ka, kb, kc, kd, h1, h2⟩ := hi
  k_steps
  exact h _
theorem st_expirations (F : Fr h₀ L s.heap m) (X : (kd.heap_1 w.params).In h₀) (N : News h₀ L s.heap news) {A : Around} {z : Z} {expr : Bool} (hi : StoreIn w news z) (h : ∀ t, Q (.ref z.ex) { s with toks := t }) :
    wpAny (model prog w) A (getAttr (.ref z.self) (Str.ofString "expirations") expr) Q E s := by
  obtain ⟨ka, kb, kc, kd, h1, h2⟩ := hi
  k_steps
  exact h _
theorem st_events (F : Fr h₀ L s.heap m) (X : (kd.heap_1 w.params).In h₀) (N : News h₀ L s.heap news) {A : Around} {z : Z} {expr : Bool} (hi : StoreIn w news z) (h : ∀ t, Q (.ref z.ev) { s with toks := t }) :
    wpAny (model prog w) A (getAttr (.ref z.self) (Str.ofString "events") expr) Q E s := by
  obtain ⟨ka, kb, kc, kd, h1, h2⟩ := hi
  k_steps
  exact h _
theorem st_m_clock (F : Fr h₀ L s.heap m) (X : (kd.heap_1 w.params).In h₀) (N : News h₀ L s.heap news) {A : Around} {z : Z} {pl : Sem Bool} {Q : Value × List Value → Shared → Prop} (hi : StoreIn w news z) (h : ∀ t, Q (.ref z.clk, []) { s with toks := t }) :
    wpAny (model prog w) A (getMethod (.ref z.self) (Str.ofString "clock") pl) Q E s := by
  obtain ⟨ka, kb, kc, kd, h1, h2⟩ := hi
  k_steps
  all_goals exact h _
theorem st_m_get (F : Fr h₀ L s.heap m) (X : (kd.heap_1 w.params).In h₀) (N : News h₀ L s.heap news) {A : Around} {z : Z} {pl : Sem Bool} {Q : Value × List Value → Shared → Prop} (hi : StoreIn w news z) (h : Q (.ref 629, [.ref z.self]) s) :
    wpAny (model prog w) A (getMethod (.ref z.self) (Str.ofString "get") pl) Q E s := by
  obtain ⟨ka, kb, kc, kd, h1, h2⟩ := hi
  k_steps
  exact h
theorem st_m_incr (F : Fr h₀ L s.heap m) (X : (kd.heap_1 w.params).In h₀) (N : News h₀ L s.heap news) {A : Around} {z : Z} {pl : Sem Bool} {Q : Value × List Value → Shared → Prop} (hi : StoreIn w news z) (h : Q (.ref 614, [.ref z.self]) s) :
    wpAny (model prog w) A (getMethod (.ref z.self) (Str.ofString "incr") pl) Q E s := by
  obtain ⟨ka, kb, kc, kd, h1, h2⟩ := hi
  k_steps
  exact h
theorem st_m_acq (F : Fr h₀ L s.heap m) (X : (kd.heap_1 w.params).In h₀) (N : News h₀ L s.heap news) {A : Around} {z : Z} {pl : Sem Bool} {Q : Value × List Value → Shared → Prop} (hi : StoreIn w news z) (h : Q (.ref 644, [.ref z.self]) s) :
    wpAny (model prog w) A (getMethod (.ref z.self) (Str.ofString "acquire_entry") pl) Q E s := by
  obtain ⟨ka, kb, kc, kd, h1, h2⟩ := hi
  k_steps
  exact h
theorem st_m_gmw (F : Fr h₀ L s.heap m) (X : (kd.heap_1 w.params).In h₀) (N : News h₀ L s.heap news) {A : Around} {z : Z} {pl : Sem Bool} {Q : Value × List Value → Shared → Prop} (hi : StoreIn w news z) (h : Q (.ref 658, [.ref z.self]) s) :
    wpAny (model prog w) A (getMethod (.ref z.self) (Str.ofString "get_moving_window") pl) Q E s := by
  obtain ⟨ka, kb, kc, kd, h1, h2⟩ := hi
  k_steps
  exact h
theorem ClockIn.fnAt {h₀ h : Heap} {L : Addr} {led : List (Addr × Obj)} {f : Addr} {t : Int} (hc : ClockIn led f t) (N : News h₀ L h led) : FnAt f h := by
  obtain ⟨name, qual, pm, ctv, c', cN, aN, oc, oN, vs, tq, tk, nn, kk, p1, p2, p3, h1, h2, h3, h4, h5, h6, h7⟩ := hc
  exact FnAt.of N h1
end
end
section
open Lean PySem PySem.Calls PySem.W PyProof.Rows PyProof.V PySem.Spec PyProof.Rows.LCg
local macro_rules | `(tactic| walk_at $s:str) => `(tactic| k_extra $(Lean.Syntax.mkStrLit ("S3 " ++ s.getString)))
local macro_rules | `(tactic| walk_at "none") => `(tactic| fail)
section
variable {prog : Program} {w : World} {p : Program} {loose : List Str} {mean : ExcName → Option Value} {mg mb : Str → Option Value} {dp un : Nat} {gd : Option (List Code)} {cn : Str} {cs : Scope} {a : Addr} {ccd : Value} {cl : List (Str × Addr)} {outer : List Env} {A₀ : Around} {base h₀ : Heap} {L : Addr} {m : Str → Option Value} {news : List (Addr × Obj)} {s : Shared} {Q E : Value → Shared → Prop}
theorem ln_S3_1 : True := by
  try walk1
  k_with "S3 k:k_room" => k_extra "ln 0"
  k_with "S3 k:k_enter" => k_extra "ln 1"
  k_with "S3 my_mem" => k_extra "ln 2"
  k_with "S3 k:k_mem" => k_extra "ln 3"
  k_with "S3 my_split" => k_extra "ln 4"
  k_with "S3 my_ltf" => k_extra "ln 5"
  k_with "S3 k:k_ne" => k_extra "ln 6"
  k_with "S3 my_reord" => k_extra "ln 7"
  k_with "S3 my_all" => k_extra "ln 8"
  k_with "S3 k:k_all" => k_extra "ln 9"
  k_with "S3 call builtin:len" => k_extra "ln 10"
  k_with "S3 subscriptTail" => k_extra "ln 11"
  k_with "S3 subscriptTail Name Name ref int" => k_extra "ln 11"
  k_with "S3 subscriptTail" => k_extra "ln 12"
  k_with "S3 subscriptTail Name Slice ref ref" => k_extra "ln 12"
  k_with "S3 call builtin:sum" => k_extra "ln 13"
  k_with "S3 my_rows" => k_extra "ln 15"
  k_with "S3 my_room" => k_extra "ln 16"
  k_with "S3 my_ctx" => k_extra "ln 17"
  k_with "S3 my_ctx0" => k_extra "ln 18"
  trivial

theorem va_nil (k : Str) : valueAt ([] : List (Str × Value)) k = none := rfl
theorem va_one (k : Str) (v : Value) : valueAt [(k, v)] k = some v := by simp [valueAt]
theorem without_one (k : Str) (v : Value) : without [(k, v)] k = [] := by simp [without]
theorem stored_nil (k : Str) (v : Value) : stored ([] : List (Str × Value)) k v = [(k, v)] := rfl
theorem stored_one (k : Str) (u v : Value) : stored [(k, u)] k v = [(k, v)] := by simp [stored]
theorem pop_none {A : Around} {d : Addr} {o : Obj} {k : Str} {t : Tok} {kvs : List (Str × Value)} {dflt : Value} (N : News h₀ L s.heap news) (hp : (d, o) ∈ news) (hd : o.IsDictOf (strKind prog w) kvs) (lo : (d == sysModules) = false) (hl : valueAt kvs k = none) (h : Q dflt { s with toks := s.toks + 1 }) :
    wpAny (model prog w) A (call (.builtin "dict.pop") [.ref d, .str k t, dflt]) Q E s := by
  have hD := kda_dict N hp hd
  exact call_meetsIn PySem.F.slot_dict_pop hD.typeIs PySem.F.entry_dict_pop (PySem.F.args_dict_pop_3 _ _ _) (meets_dict_pop_default (strKind prog w) d (strKind_is _ _ _ _) lo rfl dflt) ⟨kvs, hD, hl, h⟩
theorem dict_item {A : Around} {d : Addr} {o : Obj} {k : Str} {t : Tok} {kvs : List (Str × Value)} {v : Value} {value slice : PySem.Expr} (N : News h₀ L s.heap news) (hp : (d, o) ∈ news) (hd : o.IsDictOf (strKind prog w) kvs) (hl : valueAt kvs k = some v) (h : Q v { s with toks := s.toks + 1 })
    (hs : subscripted slice false (.ref d) (.str k t) = operate [.ref d, .str k t] (getItem (.ref d) (.str k t)) := by with_unfolding_all rfl) :
    wpAny (model prog w) A (subscriptTail value slice (.ref d) (.str k t)) Q E s :=
  have hD := kda_dict N hp hd
  tail_any hD.typeIs slot_dict_getitem.lookup (wpAny_getItem_of (strKind_is _ _ _ _) hD.mapOf hl h) hs
/-- the fixed window's two dicts -/
inductive FX (key : Str) : List (Str × Value) → List (Str × Value) → Option (Int × Int) → Prop
  | none : FX key [] [] none
  | some (t e : Int) (u v : Tok) : FX key [(key, .int t u)] [(key, .int e v)] (some (t, e))
def live (now : Int) : Option (Int × Int) → Option (Int × Int)
  | none => none
  | some (t, e) => if e ≤ now then none else some (t, e)
def tot : Option (Int × Int) → Int
  | none => 0
  | some (t, _) => t
theorem live_none (now : Int) : live now none = none := rfl
theorem live_gone {now t e : Int} (h : e ≤ now) : live now (some (t, e)) = none := if_pos h
theorem live_here {now t e : Int} (h : ¬ e ≤ now) : live now (some (t, e)) = some (t, e) := if_neg h
theorem ln_S3_2 : True := by
  k_with "ln 38" => (first | assumption | exact StoreIn.mono (by assumption) (by intro p hp; k_mem))
  k_with "S3 my_store" => k_extra "ln 38"
  k_with "ln 39" => (first | assumption | exact ClockIn.mono (by assumption) (by intro p hp; k_mem))
  k_with "S3 my_clock" => k_extra "ln 39"
  k_with "ln 40" => ((k_here; (with_reducible show wpAny _ _ (getAttr _ (Str.ofString "storage") _) _ _ _); k_dflt (refine' st_storage ?z40xF ?z40xX ?z40xN ?z40xi ?_; (case z40xF => k_asm); (case z40xX => k_asm); (case z40xN => k_asm); (case z40xi => walk_at "my_store"); k_whole); intro t'q))
  k_with "S3 getAttr ref" => k_extra "ln 40"
  k_with "ln 41" => ((k_here; (with_reducible show wpAny _ _ (getAttr _ (Str.ofString "expirations") _) _ _ _); k_dflt (refine' st_expirations ?z41xF ?z41xX ?z41xN ?z41xi ?_; (case z41xF => k_asm); (case z41xX => k_asm); (case z41xN => k_asm); (case z41xi => walk_at "my_store"); k_whole); intro t'q))
  k_with "S3 getAttr ref" => k_extra "ln 41"
  k_with "ln 42" => ((k_here; (with_reducible show wpAny _ _ (getAttr _ (Str.ofString "events") _) _ _ _); k_dflt (refine' st_events ?z42xF ?z42xX ?z42xN ?z42xi ?_; (case z42xF => k_asm); (case z42xX => k_asm); (case z42xN => k_asm); (case z42xi => walk_at "my_store"); k_whole); intro t'q))
  k_with "S3 getAttr ref" => k_extra "ln 42"
  k_with "ln 43" => ((k_here; (with_reducible show wpAny _ _ (getMethod _ (Str.ofString "clock") _) _ _ _); k_dflt (refine' st_m_clock ?z43xF ?z43xX ?z43xN ?z43xi ?_; (case z43xF => k_asm); (case z43xX => k_asm); (case z43xN => k_asm); (case z43xi => walk_at "my_store"); k_whole); intro t'q; (try dsimp only)))
  k_with "S3 getMethod ref" => k_extra "ln 43"
  k_with "ln 44" => ((k_here; (with_reducible show wpAny _ _ (getMethod _ (Str.ofString "get") _) _ _ _); k_dflt (refine' st_m_get ?z44xF ?z44xX ?z44xN ?z44xi ?_; (case z44xF => k_asm); (case z44xX => k_asm); (case z44xN => k_asm); (case z44xi => walk_at "my_store"); k_whole)))
  k_with "S3 getMethod ref" => k_extra "ln 44"
  k_with "ln 45" => ((k_here; (with_reducible show wpAny _ _ (getMethod _ (Str.ofString "incr") _) _ _ _); k_dflt (refine' st_m_incr ?z45xF ?z45xX ?z45xN ?z45xi ?_; (case z45xF => k_asm); (case z45xX => k_asm); (case z45xN => k_asm); (case z45xi => walk_at "my_store"); k_whole)))
  k_with "S3 getMethod ref" => k_extra "ln 45"
  k_with "ln 46" => ((k_here; (with_reducible show wpAny _ _ (getMethod _ (Str.ofString "acquire_entry") _) _ _ _); k_dflt (refine' st_m_acq ?z46xF ?z46xX ?z46xN ?z46xi ?_; (case z46xF => k_asm); (case z46xX => k_asm); (case z46xN => k_asm); (case z46xi => walk_at "my_store"); k_whole)))
  k_with "S3 getMethod ref" => k_extra "ln 46"
  k_with "ln 47" => ((k_here; (with_reducible show wpAny _ _ (getMethod _ (Str.ofString "get_moving_window") _) _ _ _); k_dflt (refine' st_m_gmw ?z47xF ?z47xX ?z47xN ?z47xi ?_; (case z47xF => k_asm); (case z47xX => k_asm); (case z47xN => k_asm); (case z47xi => walk_at "my_store"); k_whole)))
  k_with "S3 getMethod ref" => k_extra "ln 47"
  k_with "ln 48" => ((k_here; (with_reducible show wpAny _ _ (call (Value.ref (Z.clk _)) _) _ _ _); k_dflt (refine' clock_ok ?zcB ?zcF ?zcX ?zcN ?zcT ?zchk ?zcdp ?zcun ?z48xc ?_; (walk_at "my_ctx"); (case z48xc => walk_at "my_clock"); k_whole); intro h'q tk'q u'q F'q N'q))
  k_with "S3 call ref" => k_extra "ln 48"
  k_with "ln 49" => ((k_here; (with_reducible show wpAny _ _ (getMethod (Value.ref _) (Str.ofString "get") _) _ _ _); k_dflt (refine' kdg_method (knd := PySem.strKind _ _) ?z49xN ?z49xm ?z49xd ?_; (case z49xN => k_asm); (case z49xm => k_mem); (case z49xd => k_asm); k_whole)))
  k_with "S3 getMethod ref" => k_extra "ln 49"
  k_with "ln 50" => ((k_here; (with_reducible show wpAny _ _ (getMethod (Value.ref _) (Str.ofString "pop") _) _ _ _); k_dflt (refine' kob_method (knd := PySem.strKind _ _) PySem.F.slot_dict_pop PySem.F.type_dict_pop ?z50xN ?z50xm ?z50xd ?_; (case z50xN => k_asm); (case z50xm => k_mem); (case z50xd => k_asm); k_whole)))
  k_with "S3 getMethod ref" => k_extra "ln 50"
  k_with "ln 51" => ((k_here; (with_reducible show wpAny _ _ (callWith _ (Value.ref (Z.clk _)) _ _ _) _ _ _); k_dflt (refine' callWith_F0 ?z51xx ?_; (case z51xx => (refine' ClockIn.fnAt ?z51xc ?z51xN; (case z51xN => k_asm); (case z51xc => walk_at "my_clock"))); k_whole); (try simp only [List.append_nil, List.nil_append])))
  k_with "S3 callWith ref" => k_extra "ln 51"
  k_with "ln 52" => (first | assumption | exact va_nil _ | exact va_one _ _)
  k_with "S3 my_val" => k_extra "ln 52"
  k_with "ln 53" => (first | assumption | (rw [sizeLine_eq]; exact Nat.le_of_ble_eq_true (by with_unfolding_all rfl)))
  k_with "S3 my_size" => k_extra "ln 53"
  k_with "ln 54" => ((k_here; k_dflt (refine' kdg_get2 (knd := PySem.strKind _ _) ?z54xN ?z54xm ?z54xd ?z54xo (strKind_is _ _ _ _) _ ?z54xv ?_; (case z54xN => k_asm); (case z54xm => k_mem); (case z54xd => k_asm); (case z54xo => k_asm); (case z54xv => walk_at "my_val"); k_whole); (try dsimp only [Option.getD])))
  k_with "S3 call builtin:dict.get" => k_extra "ln 54"
  k_with "ln 55" => ((k_here; (with_reducible show wpAny _ _ (call (Value.builtin "dict.pop") [Value.ref _, Value.str _ _, _]) _ _ _); k_dflt (first
  | (refine' pop_none ?z55xN ?z55xm ?z55xd ?z55xo ?z55xv ?_; (case z55xN => k_asm); (case z55xm => k_mem); (case z55xd => k_asm); (case z55xo => k_asm); (case z55xv => walk_at "my_val"); k_whole)
  | (refine' kob_pop (knd := PySem.strKind _ _) (more := [_]) ?z55xF ?z55xN ?z55xU ?z55xd (strKind_is _ _ _ _) (.inr ⟨_, rfl⟩) (by rfl) (PySem.F.args_dict_pop_3 _ _ _) ?z55xl ?z55xz ?_; (case z55xF => k_asm); (case z55xN => k_asm); (case z55xU => k_updF); (case z55xd => k_asm); (case z55xl => walk_at "my_val"); (case z55xz => walk_at "my_size"); intro h'q o'q F'q N'q hd'q; (try simp only [without_one] at hd'q); (try dsimp only at N'q)))))
  k_with "S3 call builtin:dict.pop" => k_extra "ln 55"
  k_with "ln 56" => ((k_here; (with_reducible show wpAny _ _ (subscriptTail _ _ (Value.ref _) (Value.str _ _)) _ _ _); k_dflt (refine' dict_item ?z56xN ?z56xm ?z56xd ?z56xv ?_ ?z56xs; (case z56xN => k_asm); (case z56xm => k_mem); (case z56xd => k_asm); (case z56xv => walk_at "my_val"); (case z56xs => with_unfolding_all rfl); k_whole)))
  k_with "S3 subscriptTail" => k_extra "ln 56"
  k_with "S3 subscriptTail Attribute Name Name ref str" => k_extra "ln 56"
  k_with "ln 57" => ((k_here; k_dflt (refine' kda_set (knd := PySem.strKind _ _) ?z57xF ?z57xN ?z57xU ?z57xd (strKind_is _ _ _ _) ?z57xz ?_; (case z57xF => k_asm); (case z57xN => k_asm); (case z57xU => k_updF); (case z57xd => k_asm); (case z57xz => walk_at "my_size"); k_whole); intro h'q o'q F'q N'q hd'q; (try simp only [stored_nil, stored_one] at hd'q); (try dsimp only at N'q)))
  k_with "S3 setItem ref str" => k_extra "ln 57"
  trivial

set_option maxHeartbeats 8000000 in
theorem get_ok (B : Below A₀ base outer h₀) (F : Fr h₀ L s.heap m) (X : (kd.heap_1 w.params).In h₀) (N : News h₀ L s.heap news) (T : Top p loose mean mg mb h₀) (hk : cs.kind = .function) (hdp : dp ≤ 940) (hun : un ≤ 9440) {z : Z} {oSt oEx : Obj} {rest : List (Addr × Obj)} {kS kE : List (Str × Value)} {fx : Option (Int × Int)} {key : Str} {tk0 : Tok} {now : Int}
   (hn : news = (z.st, oSt) :: (z.ex, oEx) :: rest) (a1 : z.st ≠ z.ex) (a2 : ∀ p ∈ rest, p.1 ≠ z.st) (a3 : ∀ p ∈ rest, p.1 ≠ z.ex) (l1 : (z.st == sysModules) = false) (l2 : (z.ex == sysModules) = false)
   (hS : StoreIn w rest z) (hC : ClockIn rest z.clk now) (dS : oSt.IsDictOf (strKind prog w) kS) (dE : oEx.IsDictOf (strKind prog w) kE) (hf : FX key kS kE fx)
   (ret : ∀ h' tk' u oSt' oEx' kS' kE', Fr h₀ L h' m → News h₀ L h' ((z.st, oSt') :: (z.ex, oEx') :: rest) → oSt'.IsDictOf (strKind prog w) kS' → oEx'.IsDictOf (strKind prog w) kE' → FX key kS' kE' (live now fx) → Q (.int (tot (live now fx)) u) { s with heap := h', toks := tk' }) :
   wpAny (model prog w) (ktrTop dp un gd cn cs L a ccd cl outer) (call (.ref 629) [.ref z.self, .str key tk0]) Q E s := by
  subst hn
  cases hf with
  | none =>
    k_steps
    all_goals first | exact ret _ _ _ _ _ _ _ (by assumption) (by assumption) (by assumption) (by assumption) .none | trace_state
  | some t e u v =>
    k_steps
    · have hg : live now (some (t, e)) = none := live_gone (by omega)
      rw [hg] at ret
      exact ret _ _ _ _ _ _ _ (by assumption) (by assumption) (by assumption) (by assumption) .none
    · have hg : live now (some (t, e)) = some (t, e) := live_here (by omega)
      rw [hg] at ret
      exact ret _ _ _ _ _ _ _ (by assumption) (by assumption) (by assumption) (by assumption) (.some _ _ _ _)
end
end
section
open Lean PySem PySem.Calls PySem.W PyProof.Rows PyProof.V PySem.Spec PyProof.Rows.LCg
local macro_rules | `(tactic| walk_at $s:str) => `(tactic| k_extra $(Lean.Syntax.mkStrLit ("S4 " ++ s.getString)))
section
variable {prog : Program} {w : World} {p : Program} {loose : List Str} {mean : ExcName → Option Value} {mg mb : Str → Option Value} {dp un : Nat} {gd : Option (List Code)} {cn : Str} {cs : Scope} {a : Addr} {ccd : Value} {cl : List (Str × Addr)} {outer : List Env} {A₀ : Around} {base h₀ : Heap} {L : Addr} {m : Str → Option Value} {news : List (Addr × Obj)} {s : Shared} {Q E : Value → Shared → Prop}
theorem ln_S4_1 : True := by
  try walk1
  k_with "S4 k:k_room" => k_extra "ln 0"
  k_with "S4 k:k_enter" => k_extra "ln 1"
  k_with "S4 my_mem" => k_extra "ln 2"
  k_with "S4 k:k_mem" => k_extra "ln 3"
  k_with "S4 my_split" => k_extra "ln 4"
  k_with "S4 my_ltf" => k_extra "ln 5"
  k_with "S4 k:k_ne" => k_extra "ln 6"
  k_with "S4 my_reord" => k_extra "ln 7"
  k_with "S4 my_all" => k_extra "ln 8"
  k_with "S4 k:k_all" => k_extra "ln 9"
  k_with "S4 call builtin:len" => k_extra "ln 10"
  k_with "S4 subscriptTail" => k_extra "ln 11"
  k_with "S4 subscriptTail Name Name ref int" => k_extra "ln 11"
  k_with "S4 subscriptTail" => k_extra "ln 12"
  k_with "S4 subscriptTail Name Slice ref ref" => k_extra "ln 12"
  k_with "S4 call builtin:sum" => k_extra "ln 13"
  k_with "S4 my_rows" => k_extra "ln 15"
  k_with "S4 my_room" => k_extra "ln 16"
  k_with "S4 my_ctx" => k_extra "ln 17"
  k_with "S4 my_ctx0" => k_extra "ln 18"
  k_with "S4 my_store" => k_extra "ln 38"
  k_with "S4 my_clock" => k_extra "ln 39"
  k_with "S4 getAttr ref" => k_extra "ln 40"
  k_with "S4 getAttr ref" => k_extra "ln 41"
  k_with "S4 getAttr ref" => k_extra "ln 42"
  k_with "S4 getMethod ref" => k_extra "ln 43"
  k_with "S4 getMethod ref" => k_extra "ln 44"
  k_with "S4 getMethod ref" => k_extra "ln 45"
  k_with "S4 getMethod ref" => k_extra "ln 46"
  k_with "S4 getMethod ref" => k_extra "ln 47"
  k_with "S4 call ref" => k_extra "ln 48"
  k_with "S4 getMethod ref" => k_extra "ln 49"
  k_with "S4 getMethod ref" => k_extra "ln 50"
  k_with "S4 callWith ref" => k_extra "ln 51"
  k_with "S4 my_val" => k_extra "ln 52"
  k_with "S4 my_size" => k_extra "ln 53"
  k_with "S4 call builtin:dict.get" => k_extra "ln 54"
  k_with "S4 call builtin:dict.pop" => k_extra "ln 55"
  k_with "S4 subscriptTail" => k_extra "ln 56"
  k_with "S4 subscriptTail Attribute Name Name ref str" => k_extra "ln 56"
  k_with "S4 setItem ref str" => k_extra "ln 57"
  k_with "ln 58" => (first | assumption | k_all)
  k_with "S4 my_off" => k_extra "ln 58"
  k_with "ln 59" => ((k_here; (with_reducible show wpAny _ _ (call (Value.ref 629) _) _ _ _); k_dflt (refine' get_ok ?zcB ?zcF ?zcX ?zcN ?zcT ?zchk ?zcdp ?zcun ?z59xn ?z59xa1 ?z59xa2 ?z59xa3 ?z59xl1 ?z59xl2 ?z59xS ?z59xC ?z59xdS ?z59xdE ?z59xf ?_; (walk_at "my_ctx"); (case z59xn => exact rfl); (case z59xa1 => k_ne); (case z59xa2 => walk_at "my_off"); (case z59xa3 => walk_at "my_off"); (case z59xl1 => k_asm); (case z59xl2 => k_asm); (case z59xS => walk_at "my_store"); (case z59xC => walk_at "my_clock"); (case z59xdS => k_asm); (case z59xdE => k_asm); (case z59xf => k_asm); k_whole); intro h'q tk'q u'q oS'q oE'q kS'q kE'q F'q N'q hd1'q hd2'q hf'q))
  k_with "S4 call ref" => k_extra "ln 59"
  trivial

def bump (now W c : Int) : Option (Int × Int) → Option (Int × Int)
  | none => some (c, now + W)
  | some (t, e) => some (t + c, e)
set_option maxHeartbeats 8000000 in
theorem incr_ok (B : Below A₀ base outer h₀) (F : Fr h₀ L s.heap m) (X : (kd.heap_1 w.params).In h₀) (N : News h₀ L s.heap news) (T : Top p loose mean mg mb h₀) (hk : cs.kind = .function) (hdp : dp ≤ 930) (hun : un ≤ 9380) {z : Z} {oSt oEx : Obj} {rest : List (Addr × Obj)} {kS kE : List (Str × Value)} {fx : Option (Int × Int)} {key : Str} {tk0 tk1 tk2 : Tok} {now W c : Int}
   (hn : news = (z.st, oSt) :: (z.ex, oEx) :: rest) (a1 : z.st ≠ z.ex) (a2 : ∀ p ∈ rest, p.1 ≠ z.st) (a3 : ∀ p ∈ rest, p.1 ≠ z.ex) (l1 : (z.st == sysModules) = false) (l2 : (z.ex == sysModules) = false)
   (hS : StoreIn w rest z) (hC : ClockIn rest z.clk now) (dS : oSt.IsDictOf (strKind prog w) kS) (dE : oEx.IsDictOf (strKind prog w) kE) (hf : FX key kS kE fx) (hpos : ∀ t e, live now fx = some (t, e) → 1 ≤ t)
   (ret : ∀ h' tk' u oSt' oEx' kS' kE', Fr h₀ L h' m → News h₀ L h' ((z.st, oSt') :: (z.ex, oEx') :: rest) → oSt'.IsDictOf (strKind prog w) kS' → oEx'.IsDictOf (strKind prog w) kE' → FX key kS' kE' (bump now W c (live now fx)) → Q (.int (tot (bump now W c (live now fx))) u) { s with heap := h', toks := tk' }) :
   wpAny (model prog w) (ktrTop dp un gd cn cs L a ccd cl outer) (call (.ref 614) [.ref z.self, .str key tk0, .int W tk1] [(Str.ofString "amount", .int c tk2)]) Q E s := by
  subst hn
  k_steps
  generalize live now fx = g at *
  rename FX _ _ _ g => hfg
  cases hfg with
  | none =>
    k_steps
    all_goals first
      | (exfalso; omega)
      | (simp only [Int.zero_add] at *; exact ret _ _ _ _ _ _ _ (by assumption) (by assumption) (by assumption) (by assumption) (.some _ _ _ _))
  | some t e u v =>
    have hp := hpos t e rfl
    k_steps
    all_goals first
      | (exfalso; omega)
      | exact ret _ _ _ _ _ _ _ (by assumption) (by assumption) (by assumption) (by assumption) (.some _ _ _ _)
end
end
section
open Lean PySem PySem.Calls PySem.W PyProof.Rows PyProof.V PySem.Spec PyProof.Rows.LCg
local macro_rules | `(tactic| walk_at $s:str) => `(tactic| k_extra $(Lean.Syntax.mkStrLit ("S5 " ++ s.getString)))
local macro_rules | `(tactic| walk_at "none") => `(tactic| fail)
section
variable {prog : Program} {w : World} {p : Program} {loose : List Str} {mean : ExcName → Option Value} {mg mb : Str → Option Value} {dp un : Nat} {gd : Option (List Code)} {cn : Str} {cs : Scope} {a : Addr} {ccd : Value} {cl : List (Str × Addr)} {outer : List Env} {A₀ : Around} {base h₀ : Heap} {L : Addr} {m : Str → Option Value} {news : List (Addr × Obj)} {s : Shared} {Q E : Value → Shared → Prop}
theorem ln_S5_1 : True := by
  try walk1
  k_with "S5 k:k_room" => k_extra "ln 0"
  k_with "S5 k:k_enter" => k_extra "ln 1"
  k_with "S5 my_mem" => k_extra "ln 2"
  k_with "S5 k:k_mem" => k_extra "ln 3"
  k_with "S5 my_split" => k_extra "ln 4"
  k_with "S5 my_ltf" => k_extra "ln 5"
  k_with "S5 k:k_ne" => k_extra "ln 6"
  k_with "S5 my_reord" => k_extra "ln 7"
  k_with "S5 my_all" => k_extra "ln 8"
  k_with "S5 k:k_all" => k_extra "ln 9"
  k_with "S5 call builtin:len" => k_extra "ln 10"
  k_with "S5 subscriptTail" => k_extra "ln 11"
  k_with "S5 subscriptTail Name Name ref int" => k_extra "ln 11"
  k_with "S5 subscriptTail" => k_extra "ln 12"
  k_with "S5 subscriptTail Name Slice ref ref" => k_extra "ln 12"
  k_with "S5 call builtin:sum" => k_extra "ln 13"
  k_with "S5 my_rows" => k_extra "ln 15"
  k_with "S5 my_room" => k_extra "ln 16"
  k_with "S5 my_ctx" => k_extra "ln 17"
  k_with "S5 my_ctx0" => k_extra "ln 18"
  trivial

/-- an entry of a window, made at t -/
inductive EntAt (w : World) (led : List (Addr × Obj)) (v : Value) (t : Int) : Prop
  | mk (a : _) (d : _) (ka : _) (kb : _) (ta : _) (tb : _) (e : _) (q0 : v = .ref a) (q1 : (a, instObj 581 d) ∈ led) (q2 : (d, dictOf [ent w "atime" ka (.int t ta), ent w "expiry" kb (.int e tb)] 2) ∈ led) : EntAt w led v t
theorem EntAt.mono {w : World} {n n' : List (Addr × Obj)} {v : Value} {t : Int} (h : EntAt w n v t) (hs : ∀ p ∈ n, p ∈ n') : EntAt w n' v t :=
  let ⟨a, d, ka, kb, ta, tb, e, h0, h1, h2⟩ := h; ⟨a, d, ka, kb, ta, tb, e, h0, hs _ h1, hs _ h2⟩
/-- a list of entries -/
inductive EntsAre (w : World) (led : List (Addr × Obj)) : List Value → List Int → Prop
  | nil : EntsAre w led [] []
  | cons {v vs t ts} : EntAt w led v t → EntsAre w led vs ts → EntsAre w led (v :: vs) (t :: ts)
theorem EntsAre.mono {w : World} {n n' : List (Addr × Obj)} (hs : ∀ p ∈ n, p ∈ n') : ∀ {vs ts}, EntsAre w n vs ts → EntsAre w n' vs ts
  | _, _, .nil => .nil
  | _, _, .cons h k => .cons (h.mono hs) (k.mono hs)
theorem EntsAre.length {w : World} {n : List (Addr × Obj)} : ∀ {vs ts}, EntsAre w n vs ts → vs.length = ts.length
  | _, _, .nil => rfl
  | _, _, .cons _ k => by simp [k.length]
theorem EntsAre.get {w : World} {n : List (Addr × Obj)} : ∀ {vs ts} {i : Nat} {t : Int}, EntsAre w n vs ts → ts[i]? = some t → ∃ v, vs[i]? = some v ∧ EntAt w n v t
  | _, _, _, _, .nil, h => by simp at h
  | _, _, 0, _, .cons (v := v) hv k, h => ⟨v, rfl, by simp at h; exact h ▸ hv⟩
  | _, _, i + 1, _, .cons hv k, h => by simpa using k.get (by simpa using h)
theorem EntsAre.append {w : World} {n : List (Addr × Obj)} : ∀ {vs ts us rs}, EntsAre w n vs ts → EntsAre w n us rs → EntsAre w n (vs ++ us) (ts ++ rs)
  | _, _, _, _, .nil, k => k
  | _, _, _, _, .cons h h', k => .cons h (h'.append k)
theorem EntsAre.rep {w : World} {n : List (Addr × Obj)} {v : Value} {t : Int} (h : EntAt w n v t) : ∀ k, EntsAre w n (List.replicate k v) (List.replicate k t)
  | 0 => .nil
  | k + 1 => .cons h (EntsAre.rep h k)
theorem ent_atime (F : Fr h₀ L s.heap m) (X : (kd.heap_1 w.params).In h₀) (N : News h₀ L s.heap news) {A : Around} {a : Addr} {t : Int} {expr : Bool} (hi : EntAt w news (.ref a) t) (h : ∀ tk u, Q (.int t u) { s with toks := tk }) :
    wpAny (model prog w) A (getAttr (.ref a) (Str.ofString "atime") expr) Q E s := by
  obtain ⟨a, d, ka, kb, ta, tb, e, h0, h1, h2⟩ := hi
  obtain rfl := Value.ref.inj h0
  k_steps
  exact h _ _
abbrev entryX : Str := Str.ofString "entry"
/-- the key: a lambda of one entry, minus its time -/
inductive KeyFn (led : List (Addr × Obj)) (f : Addr) : Prop
  | mk (name qual : Str) (pm ctv : Value) (c' : Addr) (oc : Obj) (vs : Array Value) (tq : Tok) (p0 p1 p2 p3 : Pos) (q0 : (f, kla_obj name qual { posonlyargs := [], args := [{ arg := entryX, annotation := none, pos := p0 }], vararg := none, kwonlyargs := [], kw_defaults := [], kwarg := none, defaults := [] }
      (PySem.Expr.UnaryOp PySem.UnaryOp.USub (PySem.Expr.Attribute (PySem.Expr.Name entryX p1) (Str.ofString "atime") p2) p3)
      { kind := ScopeKind.function, names := [(entryX, NameKind.local)], isGenerator := false, isCoroutine := false, more := [] } [] pm c' ctv) ∈ led) (q1 : (c', oc) ∈ led) (q2 : oc.data = .fields vs) (q3 : vs[1]? = some (.str qual tq)) : KeyFn led f
theorem KeyFn.mono {n n' : List (Addr × Obj)} {f : Addr} (h : KeyFn n f) (hs : ∀ p ∈ n, p ∈ n') : KeyFn n' f := by
  obtain ⟨name, qual, pm, ctv, c', oc, vs, tq, p0, p1, p2, p3, h1, h2, h3, h4⟩ := h
  exact ⟨name, qual, pm, ctv, c', oc, vs, tq, p0, p1, p2, p3, hs _ h1, hs _ h2, h3, h4⟩
theorem KeyFn.fnAt {h₀ h : Heap} {L : Addr} {led : List (Addr × Obj)} {f : Addr} (hc : KeyFn led f) (N : News h₀ L h led) : FnAt f h := by
  obtain ⟨name, qual, pm, ctv, c', oc, vs, tq, p0, p1, p2, p3, h1, h2, h3, h4⟩ := hc
  exact FnAt.of N h1
set_option maxHeartbeats 4000000 in
theorem key_ok (B : Below A₀ base outer h₀) (F : Fr h₀ L s.heap m) (X : (kd.heap_1 w.params).In h₀) (N : News h₀ L s.heap news) (T : Top p loose mean mg mb h₀) (hk : cs.kind = .function) (hdp : dp ≤ 950) (hun : un ≤ 9500) {f ea : Addr} {t : Int} (hc : KeyFn news f) (hi : EntAt w news (.ref ea) t)
   (ret : ∀ h' tk' u, Fr h₀ L h' m → News h₀ L h' news → Q (.int (-t) u) { s with heap := h', toks := tk' }) :
   wpAny (model prog w) (ktrTop dp un gd cn cs L a ccd cl outer) (call (.ref f) [.ref ea]) Q E s := by
  obtain ⟨name, qual, pm, ctv, c', oc, vs, tq, p0, p1, p2, p3, h1, h2, h3, h4⟩ := hc
  refine wpAny_call ?_
  k_dflt (refine' kla_code (binds := [(entryX, .ref ea)]) ?k1 ?k2 ?k3 ?k4 ?k5 ?kA ?kF ?kK ?k6 ?k7 ?k8 ?k9 ?kB ?_ ?c2 ?c3 ?c4 ?c5; (case kA => exact rfl); (case kF => exact rfl); (case kK => assumption); (case k1 => k_asm); (case k2 => k_asm); (case k3 => k_asm); (case k4 => k_asm); (case k5 => k_asm); (case k6 => exact h1); (case k7 => exact codeRec_news (by k_asm) h2 h3 h4); (case k8 => k_room); (case k9 => exact rfl); (case c5 => decide); (case kB => exact locs rfl); (case c2 => exact rfl); (case c3 => exact rfl); (case c4 => exact rfl); k_whole; intro g' L' h' FG' F' N' B' X' T'; (try dsimp only))
  refine UnaryOp_ ?_
  refine Attribute_Name_ ?_
  refine nameX_L F' (v := .ref ea) rfl ?_ rfl rfl
  refine ent_atime F' X' N' hi fun tk u => ?_
  refine neg_int ?_
  refine leaveK_ F' N' ?_
  intro kF kN
  exact ret _ _ _ kF kN
end
end
section
open Lean PySem PySem.Calls PySem.W PyProof.Rows PyProof.V PySem.Spec PyProof.Rows.LCg
local macro_rules | `(tactic| walk_at $s:str) => `(tactic| k_extra $(Lean.Syntax.mkStrLit ("S6 " ++ s.getString)))
section
variable {prog : Program} {w : World} {p : Program} {loose : List Str} {mean : ExcName → Option Value} {mg mb : Str → Option Value} {dp un : Nat} {gd : Option (List Code)} {cn : Str} {cs : Scope} {a : Addr} {ccd : Value} {cl : List (Str × Addr)} {outer : List Env} {A₀ : Around} {base h₀ : Heap} {L : Addr} {m : Str → Option Value} {news : List (Addr × Obj)} {s : Shared} {Q E : Value → Shared → Prop}
theorem ln_S6_1 : True := by
  try walk1
  k_with "S6 k:k_room" => k_extra "ln 0"
  k_with "S6 k:k_enter" => k_extra "ln 1"
  k_with "S6 my_mem" => k_extra "ln 2"
  k_with "S6 k:k_mem" => k_extra "ln 3"
  k_with "S6 my_split" => k_extra "ln 4"
  k_with "S6 my_ltf" => k_extra "ln 5"
  k_with "S6 k:k_ne" => k_extra "ln 6"
  k_with "S6 my_reord" => k_extra "ln 7"
  k_with "S6 my_all" => k_extra "ln 8"
  k_with "S6 k:k_all" => k_extra "ln 9"
  k_with "S6 call builtin:len" => k_extra "ln 10"
  k_with "S6 subscriptTail" => k_extra "ln 11"
  k_with "S6 subscriptTail Name Name ref int" => k_extra "ln 11"
  k_with "S6 subscriptTail" => k_extra "ln 12"
  k_with "S6 subscriptTail Name Slice ref ref" => k_extra "ln 12"
  k_with "S6 call builtin:sum" => k_extra "ln 13"
  k_with "S6 my_rows" => k_extra "ln 15"
  k_with "S6 my_room" => k_extra "ln 16"
  k_with "S6 my_ctx" => k_extra "ln 17"
  k_with "S6 my_ctx0" => k_extra "ln 18"
  trivial

section
variable {A : Around} {led : List (Addr × Obj)}
theorem len_ents {l : Addr} {vs : List Value} {n : Nat} {evs : List Int} (N : News h₀ L s.heap led) (hm : (l, listOf vs.toArray n) ∈ led) (hr : EntsAre w news vs evs) (hb : evs.length ≤ 16777216)
    (h : Q (.int (evs.length : Int) (s.toks + 1)) { s with toks := s.toks + 1 + 1 }) : wpAny (model prog w) A (call (.builtin "len") [.ref l]) Q E s := by
  have e : vs.toArray.size = evs.length := by rw [List.size_toArray, hr.length]
  exact len_list (heap_list N hm) (by rw [e]; omega) (by rw [e]; exact h)
theorem ent_item {value slice : PySem.Expr} {l : Addr} {vs : List Value} {n : Nat} {evs : List Int} {k : Int} {u : Tok} (N : News h₀ L s.heap led) (hm : (l, listOf vs.toArray n) ∈ led) (hr : EntsAre w news vs evs)
    (h0 : 0 ≤ k) (h1 : k < (evs.length : Int)) (hfit : k < 2 ^ 63)
    (h : ∀ (a : Addr) (t : Int), evs[k.toNat]? = some t → EntAt w news (.ref a) t → Q (.ref a) s)
    (hs : subscripted slice false (.ref l) (.int k u) = operate [.ref l, .int k u] (getItem (.ref l) (.int k u)) := by with_unfolding_all rfl) :
    wpAny (model prog w) A (subscriptTail value slice (.ref l) (.int k u)) Q E s := by
  have hl := heap_list N hm
  have hk : k.toNat < evs.length := by omega
  have hv : evs[k.toNat]? = some evs[k.toNat] := List.getElem?_eq_getElem hk
  obtain ⟨v, e1, e2⟩ := hr.get hv
  obtain ⟨a, d, ka, kb, ta, tb, e, rfl, f1, f2⟩ := e2
  exact tail_any hl.typeIs slot_list_getitem.lookup (wpAny_getItem_list hl h0 hfit (by simpa using e1) (h a _ hv ⟨a, d, ka, kb, ta, tb, e, rfl, f1, f2⟩)) hs
end
theorem half_ok {A : Around} {a : Int} {t u : Tok} (h : ∀ (k : Int) (v : Tok), 2 * k ≤ a → a < 2 * k + 2 → Q (.int k v) { s with toks := s.toks + 1 }) :
    wpAny (model prog w) A (binaryOp .FloorDiv (.int a t) (.int 2 u)) Q E s := by
  refine floordiv_int (by decide) (h _ _ ?_ ?_)
  · rw [Int.fdiv_eq_ediv_of_nonneg _ (by decide)]; omega
  · rw [Int.fdiv_eq_ediv_of_nonneg _ (by decide)]; omega
theorem half_nat {k a : Int} (h : 2 * k ≤ a) (h2 : a < 2 * k + 2) (h0 : 0 ≤ a) : ∃ kk : Nat, k = kk := ⟨k.toNat, by omega⟩
def BisJ (l f : Addr) (x : Int) (tx : Tok) (evs : List Int) (news : List (Addr × Obj)) (n : Nat) (m : Str → Option Value) (nx : List (Addr × Obj)) : Prop :=
  nx = news ∧ m (Str.ofString "rows") = some (.ref l) ∧ m (Str.ofString "x") = some (.int x tx) ∧ m (Str.ofString "key") = some (.ref f) ∧
  ∃ (lo hi : Nat) (t1 t2 : Tok), m (Str.ofString "lo") = some (.int lo t1) ∧ m (Str.ofString "hi") = some (.int hi t2) ∧ lo ≤ hi ∧ hi ≤ evs.length ∧ n = hi - lo ∧
    (∀ i e, i < lo → evs[i]? = some e → -x < e) ∧ (∀ i e, hi ≤ i → evs[i]? = some e → e ≤ -x)
theorem ln_S6_2 : True := by
  k_with "S6 my_store" => k_extra "ln 38"
  k_with "S6 my_clock" => k_extra "ln 39"
  k_with "S6 getAttr ref" => k_extra "ln 40"
  k_with "S6 getAttr ref" => k_extra "ln 41"
  k_with "S6 getAttr ref" => k_extra "ln 42"
  k_with "S6 getMethod ref" => k_extra "ln 43"
  k_with "S6 getMethod ref" => k_extra "ln 44"
  k_with "S6 getMethod ref" => k_extra "ln 45"
  k_with "S6 getMethod ref" => k_extra "ln 46"
  k_with "S6 getMethod ref" => k_extra "ln 47"
  k_with "S6 call ref" => k_extra "ln 48"
  k_with "S6 getMethod ref" => k_extra "ln 49"
  k_with "S6 getMethod ref" => k_extra "ln 50"
  k_with "S6 callWith ref" => k_extra "ln 51"
  k_with "S6 my_val" => k_extra "ln 52"
  k_with "S6 my_size" => k_extra "ln 53"
  k_with "S6 call builtin:dict.get" => k_extra "ln 54"
  k_with "S6 call builtin:dict.pop" => k_extra "ln 55"
  k_with "S6 subscriptTail" => k_extra "ln 56"
  k_with "S6 subscriptTail Attribute Name Name ref str" => k_extra "ln 56"
  k_with "S6 setItem ref str" => k_extra "ln 57"
  k_with "ln 60" => (first | assumption | exact KeyFn.mono (by assumption) (by intro p hp; k_mem))
  k_with "S6 my_key" => k_extra "ln 60"
  k_with "ln 61" => (first | assumption | (refine' EntsAre.mono ?z61xs ?z61xh; (case z61xh => assumption); (case z61xs => (intro p hp; k_mem))))
  k_with "S6 my_ents" => k_extra "ln 61"
  k_with "ln 62" => (first | assumption | exact EntAt.mono (by assumption) (by intro p hp; k_mem))
  k_with "S6 my_ent" => k_extra "ln 62"
  k_with "ln 63" => ((k_here; (with_reducible show wpAny _ _ (call (Value.builtin "len") [Value.ref _]) _ _ _); k_dflt (refine' len_ents ?z63xN ?z63xm ?z63xr ?z63xb ?_; (case z63xN => k_asm); (case z63xm => k_mem); (case z63xr => walk_at "my_ents"); (case z63xb => first | assumption | omega); k_whole)))
  k_with "S6 call builtin:len" => k_extra "ln 63"
  k_with "ln 64" => ((k_here; (with_reducible show wpAny _ _ (subscriptTail _ _ (Value.ref _) (Value.int _ _)) _ _ _); k_dflt (refine' ent_item ?z64xN ?z64xm ?z64xr ?z64xa ?z64xb ?z64xc ?_ ?z64xd; (case z64xN => k_asm); (case z64xm => k_mem); (case z64xr => walk_at "my_ents"); (case z64xa => omega); (case z64xb => omega); (case z64xc => omega); (case z64xd => with_unfolding_all rfl); k_whole); intro a'q t'q hr'q hm'q))
  k_with "S6 subscriptTail" => k_extra "ln 64"
  k_with "S6 subscriptTail Name Name ref int" => k_extra "ln 64"
  k_with "ln 65" => ((k_here; (with_reducible show wpAny _ _ (getAttr _ (Str.ofString "atime") _) _ _ _); k_dflt (refine' ent_atime ?z65xF ?z65xX ?z65xN ?z65xi ?_; (case z65xF => k_asm); (case z65xX => k_asm); (case z65xN => k_asm); (case z65xi => walk_at "my_ent"); k_whole); intro t'q u'q))
  k_with "S6 getAttr ref" => k_extra "ln 65"
  k_with "S6 exec While" => k_extra "ln 14"
  k_with "S6 exec While Compare" => k_extra "ln 14"
  k_with "ln 66" => ((k_dflt (refine' KeyFn.fnAt ?z66xc ?z66xN; (case z66xN => k_asm); (case z66xc => walk_at "my_key"))))
  k_with "S6 FnAt" => k_extra "ln 66"
  k_with "ln 67" => ((k_here; (with_reducible show wpAny _ _ (call (Value.ref _) [Value.ref _]) _ _ _); k_dflt (refine' key_ok ?zcB ?zcF ?zcX ?zcN ?zcT ?zchk ?zcdp ?zcun ?z67xc ?z67xi ?_; (walk_at "my_ctx"); (case z67xc => walk_at "my_key"); (case z67xi => walk_at "my_ent"); k_whole); intro h'q tk'q u'q F'q N'q))
  k_with "S6 call ref" => k_extra "ln 67"
  k_with "ln 68" => ((k_here; k_dflt (refine' callWith_F ?z68xx ?_; (case z68xx => (refine' KeyFn.fnAt ?z68xc ?z68xN; (case z68xN => k_asm); (case z68xc => walk_at "my_key"))); k_whole)))
  k_with "S6 callWith ref" => k_extra "ln 68"
  k_with "ln 69" => ((refine half_ok ?_; intro k'q v'q hk1 hk2))
  k_with "S6 binaryOp FloorDiv int int" => k_extra "ln 69"
  trivial

set_option maxHeartbeats 8000000 in
theorem bisect_ok (B : Below A₀ base outer h₀) (F : Fr h₀ L s.heap m) (X : (kd.heap_1 w.params).In h₀) (N : News h₀ L s.heap news) (T : Top p loose mean mg mb h₀) (hk : cs.kind = .function) (hdp : dp ≤ 940) (hun : un ≤ 9440) {l f : Addr} {vs : List Value} {nn : Nat} {evs : List Int} {x : Int} {tx : Tok}
   (hl : (l, listOf vs.toArray nn) ∈ news) (hr : EntsAre w news vs evs) (hd : Desc evs) (hb : evs.length ≤ 16777216) (hf : KeyFn news f)
   (ret : ∀ h' tk' k u, Fr h₀ L h' m → News h₀ L h' news → k = (idx (-x) evs : Int) → 0 ≤ k → k ≤ (evs.length : Int) → Q (.int k u) { s with heap := h', toks := tk' }) :
   wpAny (model prog w) (ktrTop dp un gd cn cs L a ccd cl outer) (call (.ref 564) [.ref l, .int x tx] [(Str.ofString "key", .ref f)]) Q E s := by
  refine wpAny_call ?_
  k_dflt k_enter
  k_steps
  refine Stop.out (P := Stop _) ?_
  unfold Stop
  rename Fr _ _ _ _ => F1
  rename News _ _ _ _ => N1
  refine While_inv (BisJ l f x tx evs news) (n₀ := evs.length) F1 N1 ⟨rfl, rfl, rfl, rfl, 0, evs.length, _, _, rfl, rfl, by omega, by omega, by omega, by intro i e h; omega, by intro i e h1 h2; have := (List.getElem?_eq_some_iff.mp h2).1; omega⟩ ?turn
  rintro n m₁ nx h₁ tk₁ F2 N2 ⟨rfl, e1, e2, e3, lo, hi, t1, t2, e4, e5, hlo, hhi, hn, hL, hR⟩
  clear F1 N1
  replace F2 := Fr.see F2 [(Str.ofString "rows", .ref l), (Str.ofString "x", .int x tx), (Str.ofString "key", .ref f), (Str.ofString "lo", .int lo t1), (Str.ofString "hi", .int hi t2)] (by simp [e1, e2, e3, e4, e5])
  dsimp only [seen] at F2
  k_steps
  · rename evs[_]? = some _ => g1
    rename 2 * _ ≤ _ => g2
    rename _ < 2 * _ + 2 => g3
    obtain ⟨kk, hk⟩ := half_nat g2 g3 (by omega)
    subst hk
    rw [Int.toNat_natCast] at g1
    refine WhileStep.intro (n' := hi - (kk + 1)) (by assumption) (by assumption) (by omega) ⟨rfl, rfl, rfl, rfl, kk + 1, hi, _, _, rfl, rfl, by omega, hhi, rfl, ?_, hR⟩
    intro i e hi' he
    have := desc_get hd (show i ≤ kk by omega) he g1
    omega
  · rename evs[_]? = some _ => g1
    rename 2 * _ ≤ _ => g2
    rename _ < 2 * _ + 2 => g3
    obtain ⟨kk, hk⟩ := half_nat g2 g3 (by omega)
    subst hk
    rw [Int.toNat_natCast] at g1
    refine WhileStep.intro (n' := kk - lo) (by assumption) (by assumption) (by omega) ⟨rfl, rfl, rfl, rfl, lo, kk, _, _, rfl, rfl, by omega, by omega, rfl, hL, ?_⟩
    intro i e hi' he
    have := desc_get hd hi' g1 he
    omega
  · have hidx : lo = idx (-x) evs := idx_unique (by omega) hL (fun e he => hR lo e (by omega) he)
    exact ret _ _ _ _ (by assumption) (by assumption) (by rw [← hidx]) (by omega) (by omega)
end
end
section
open Lean PySem PySem.Calls PySem.W PyProof.Rows PyProof.V PySem.Spec PyProof.Rows.LCg
local macro_rules | `(tactic| walk_at $s:str) => `(tactic| k_extra $(Lean.Syntax.mkStrLit ("S7 " ++ s.getString)))
local macro_rules | `(tactic| walk_at "none") => `(tactic| fail)
section
variable {prog : Program} {w : World} {p : Program} {loose : List Str} {mean : ExcName → Option Value} {mg mb : Str → Option Value} {dp un : Nat} {gd : Option (List Code)} {cn : Str} {cs : Scope} {a : Addr} {ccd : Value} {cl : List (Str × Addr)} {outer : List Env} {A₀ : Around} {base h₀ : Heap} {L : Addr} {m : Str → Option Value} {news : List (Addr × Obj)} {s : Shared} {Q E : Value → Shared → Prop}
theorem ln_S7_1 : True := by
  try walk1
  k_with "S7 k:k_room" => k_extra "ln 0"
  k_with "S7 k:k_enter" => k_extra "ln 1"
  k_with "S7 my_mem" => k_extra "ln 2"
  k_with "S7 k:k_mem" => k_extra "ln 3"
  k_with "S7 my_split" => k_extra "ln 4"
  k_with "S7 my_ltf" => k_extra "ln 5"
  k_with "S7 k:k_ne" => k_extra "ln 6"
  k_with "S7 my_reord" => k_extra "ln 7"
  k_with "S7 my_all" => k_extra "ln 8"
  k_with "S7 k:k_all" => k_extra "ln 9"
  k_with "S7 call builtin:len" => k_extra "ln 10"
  k_with "S7 subscriptTail" => k_extra "ln 11"
  k_with "S7 subscriptTail Name Name ref int" => k_extra "ln 11"
  k_with "S7 subscriptTail" => k_extra "ln 12"
  k_with "S7 subscriptTail Name Slice ref ref" => k_extra "ln 12"
  k_with "S7 call builtin:sum" => k_extra "ln 13"
  k_with "S7 my_rows" => k_extra "ln 15"
  k_with "S7 my_room" => k_extra "ln 16"
  k_with "S7 my_ctx" => k_extra "ln 17"
  k_with "S7 my_ctx0" => k_extra "ln 18"
  trivial

section
variable {A : Around} {led : List (Addr × Obj)}
theorem truthy_ents {l : Addr} {vs : List Value} {n : Nat} {evs : List Int} {Q : Bool → Shared → Prop} (N : News h₀ L s.heap led) (hm : (l, listOf vs.toArray n) ∈ led) (hr : EntsAre w news vs evs) (hb : evs.length ≤ 16777216)
    (h1 : evs ≠ [] → ∀ tk, Q true { s with toks := tk }) (h2 : evs = [] → ∀ tk, Q false { s with toks := tk }) : wpAny (model prog w) A (truthy (.ref l)) Q E s := by
  have e : vs.toArray.size = evs.length := by rw [List.size_toArray, hr.length]
  refine wpAny_truthy_list (heap_list N hm) (by rw [e]; omega) ?_
  cases hr with
  | nil => exact h2 rfl _
  | cons a r => exact h1 (by simp) _
theorem ent_item_any {value slice : PySem.Expr} {l : Addr} {vs : List Value} {n : Nat} {evs : List Int} {k : Int} {u : Tok} (N : News h₀ L s.heap led) (hm : (l, listOf vs.toArray n) ∈ led) (hr : EntsAre w news vs evs)
    (hne : evs ≠ []) (h0 : -1 ≤ k) (h1 : k < (evs.length : Int)) (hb : evs.length ≤ 16777216)
    (h : ∀ (a : Addr) (t : Int), EntAt w news (.ref a) t → Q (.ref a) s)
    (hs : subscripted slice false (.ref l) (.int k u) = operate [.ref l, .int k u] (getItem (.ref l) (.int k u)) := by with_unfolding_all rfl) :
    wpAny (model prog w) A (subscriptTail value slice (.ref l) (.int k u)) Q E s := by
  have hl := heap_list N hm
  have hlen : 1 ≤ evs.length := by cases evs with | nil => exact absurd rfl hne | cons a r => simp
  by_cases hk : 0 ≤ k
  · exact ent_item N hm hr hk h1 (by omega) (fun a t _ e => h a t e) hs
  · have hk1 : k = -1 := by omega
    subst hk1
    have hv : evs[evs.length - 1]? = some evs[evs.length - 1] := List.getElem?_eq_getElem (by omega)
    obtain ⟨v, e1, e2⟩ := hr.get hv
    obtain ⟨a, d, ka, kb, ta, tb, e, rfl, f1, f2⟩ := e2
    have hsz : vs.toArray.size = evs.length := by rw [List.size_toArray, hr.length]
    refine tail_any hl.typeIs slot_list_getitem.lookup (wpAny_getItem_list_neg hl (by omega) (by omega) (by omega) (x := .ref a) ?_ (h a _ ⟨a, d, ka, kb, ta, tb, e, rfl, f1, f2⟩)) hs
    rw [hsz, show ((-1 : Int) + (evs.length : Int)).toNat = evs.length - 1 by omega]
    simpa using e1
end
/-- the store's addresses lie apart -/
structure Okz (z : Z) : Prop where
  a1 : z.st ≠ z.ex
  a2 : z.st ≠ z.ev
  a3 : z.st ≠ z.nw
  a4 : z.ex ≠ z.ev
  a5 : z.ex ≠ z.nw
  a6 : z.ev ≠ z.nw
  b1 : z.st ≠ 653
  b2 : z.ex ≠ 653
  b3 : z.ev ≠ 653
  b4 : z.nw ≠ 653
  l1 : (z.st == sysModules) = false
  l2 : (z.ex == sysModules) = false
  l3 : (z.ev == sysModules) = false
structure Offz (z : Z) (rest : List (Addr × Obj)) : Prop where
  a1 : ∀ p ∈ rest, p.1 ≠ z.st
  a2 : ∀ p ∈ rest, p.1 ≠ z.ex
  a3 : ∀ p ∈ rest, p.1 ≠ z.ev
  a4 : ∀ p ∈ rest, p.1 ≠ 653
  a5 : ∀ p ∈ rest, p.1 ≠ z.nw
theorem Offz.cons {z : Z} {rest : List (Addr × Obj)} {p : Addr × Obj} (h : Offz z rest) (h1 : p.1 ≠ z.st) (h2 : p.1 ≠ z.ex) (h3 : p.1 ≠ z.ev) (h4 : p.1 ≠ 653) (h5 : p.1 ≠ z.nw) : Offz z (p :: rest) :=
  ⟨fun q hq => (List.mem_cons.mp hq).elim (fun e => e ▸ h1) (h.a1 q), fun q hq => (List.mem_cons.mp hq).elim (fun e => e ▸ h2) (h.a2 q), fun q hq => (List.mem_cons.mp hq).elim (fun e => e ▸ h3) (h.a3 q), fun q hq => (List.mem_cons.mp hq).elim (fun e => e ▸ h4) (h.a4 q), fun q hq => (List.mem_cons.mp hq).elim (fun e => e ▸ h5) (h.a5 q)⟩
abbrev lamQ : Str := Str.ofString "MemoryStorage.get_moving_window.<locals>.<lambda>"
def TabOk (rest : List (Addr × Obj)) (ps : Array Value) : Prop :=
  ps = #[] ∨ ∃ (c' : Addr) (oc : Obj) (vs : Array Value) (tq : Tok), ps = #[rawInt 428, rawInt 68, .ref c'] ∧ (c', oc) ∈ rest ∧ oc.data = .fields vs ∧ vs[1]? = some (.str lamQ tq)
theorem TabOk.mono {n n' : List (Addr × Obj)} {ps : Array Value} (h : TabOk n ps) (hs : ∀ p ∈ n, p ∈ n') : TabOk n' ps := by
  rcases h with h | ⟨c', oc, vs, tq, h1, h2, h3, h4⟩
  · exact .inl h
  · exact .inr ⟨c', oc, vs, tq, h1, hs _ h2, h3, h4⟩
/-- a moving window's list in the dict of the events -/
def EvAt (w : World) (rest : List (Addr × Obj)) (kV : List (Str × Value)) (key : Str) (evs : List Int) : Prop :=
  (valueAt kV key = none ∧ evs = []) ∨ ∃ (l : Addr) (vs : List Value) (n : Nat), valueAt kV key = some (.ref l) ∧ (l, listOf vs.toArray n) ∈ rest ∧ EntsAre w rest vs evs
theorem EvAt.mono {w : World} {n n' : List (Addr × Obj)} {kV : List (Str × Value)} {key : Str} {evs : List Int} (h : EvAt w n kV key evs) (hs : ∀ p ∈ n, p ∈ n') : EvAt w n' kV key evs := by
  rcases h with h | ⟨l, vs, k, h1, h2, h3⟩
  · exact .inl h
  · exact .inr ⟨l, vs, k, h1, hs _ h2, h3.mono hs⟩
theorem ln_S7_2 : True := by
  k_with "S7 my_store" => k_extra "ln 38"
  k_with "S7 my_clock" => k_extra "ln 39"
  k_with "S7 getAttr ref" => k_extra "ln 40"
  k_with "S7 getAttr ref" => k_extra "ln 41"
  k_with "S7 getAttr ref" => k_extra "ln 42"
  k_with "S7 getMethod ref" => k_extra "ln 43"
  k_with "S7 getMethod ref" => k_extra "ln 44"
  k_with "S7 getMethod ref" => k_extra "ln 45"
  k_with "S7 getMethod ref" => k_extra "ln 46"
  k_with "S7 getMethod ref" => k_extra "ln 47"
  k_with "S7 call ref" => k_extra "ln 48"
  k_with "S7 getMethod ref" => k_extra "ln 49"
  k_with "S7 getMethod ref" => k_extra "ln 50"
  k_with "S7 callWith ref" => k_extra "ln 51"
  k_with "S7 my_val" => k_extra "ln 52"
  k_with "S7 my_size" => k_extra "ln 53"
  k_with "S7 call builtin:dict.get" => k_extra "ln 54"
  k_with "S7 call builtin:dict.pop" => k_extra "ln 55"
  k_with "S7 subscriptTail" => k_extra "ln 56"
  k_with "S7 subscriptTail Attribute Name Name ref str" => k_extra "ln 56"
  k_with "S7 setItem ref str" => k_extra "ln 57"
  k_with "S7 my_key" => k_extra "ln 60"
  k_with "S7 my_ents" => k_extra "ln 61"
  k_with "S7 my_ent" => k_extra "ln 62"
  k_with "S7 call builtin:len" => k_extra "ln 63"
  k_with "S7 subscriptTail" => k_extra "ln 64"
  k_with "S7 subscriptTail Name Name ref int" => k_extra "ln 64"
  k_with "S7 getAttr ref" => k_extra "ln 65"
  k_with "ln 70" => ((k_here; (with_reducible show wpAny _ _ (truthy (Value.ref _)) _ _ _); k_dflt (refine' truthy_ents ?z70xN ?z70xm ?z70xr ?z70xb ?_ ?_; (case z70xN => k_asm); (case z70xm => k_mem); (case z70xr => walk_at "my_ents"); (case z70xb => assumption); k_whole)))
  k_with "S7 truthy ref" => k_extra "ln 70"
  k_with "ln 71" => ((k_here; (with_reducible show wpAny _ _ (subscriptTail _ _ (Value.ref _) (Value.int _ _)) _ _ _); k_dflt (refine' ent_item_any ?z71xN ?z71xm ?z71xr ?z71xne ?z71xa ?z71xc ?z71xb ?_ ?z71xd; (case z71xN => k_asm); (case z71xm => k_mem); (case z71xr => walk_at "my_ents"); (case z71xne => assumption); (case z71xa => omega); (case z71xc => omega); (case z71xb => assumption); (case z71xd => with_unfolding_all rfl); k_whole); intro a'q t'q hm'q))
  k_with "S7 subscriptTail" => k_extra "ln 71"
  k_with "S7 subscriptTail Name BinOp ref int" => k_extra "ln 71"
  k_with "ln 72" => ((k_here; (with_reducible show wpAny _ _ (call (Value.ref 564) _ _) _ _ _); refine Stop.out ?_))
  k_with "S7 call ref" => k_extra "ln 72"
  k_with "ln 73" => ((k_here; (with_reducible show wpAny _ _ (call (Value.ref 564) _ _) _ _ _); k_dflt (refine' bisect_ok ?zcB ?zcF ?zcX ?zcN ?zcT ?zchk ?zcdp ?zcun ?z73xm ?z73xr ?z73xd ?z73xb ?z73xf ?_; (walk_at "my_ctx"); (case z73xm => k_mem); (case z73xr => walk_at "my_ents"); (case z73xd => assumption); (case z73xb => assumption); (case z73xf => walk_at "my_key"); k_whole); intro h'q tk'q k'q u'q F'q N'q hk1'q hk2'q hk3'q))
  k_with "S7 call ref" => k_extra "ln 73"
  k_with "ln 74" => (first | assumption | exact ⟨_, _, _, _, _, _, _, _, _, _, _, _, .head _, by k_mem, by assumption, by assumption⟩)
  k_with "S7 my_key" => k_extra "ln 74"
  k_with "ln 75" => ((k_here; k_dflt (refine' kla_eval ?z75xd0 ?_; (case z75xd0 => exact rfl)); first
  | (k_dflt (refine' kla_nest (P := 653) ?z75xF ?z75xN ?z75xT ?z75xC ?z75xcd ?z75xU ?z75xt ?z75xn ?z75xcl ?_; (case z75xF => k_asm); (case z75xN => k_asm); (case z75xT => k_asm); (case z75xcd => exact rfl); (case z75xC => exact codeHd_of_K (by k_asm) (by kernel_rfl)); (case z75xU => k_updF); (case z75xt => kn_triples); (case z75xn => kn_among); (case z75xcl => exact rfl); k_whole); intro f'q c'q oc'q vs'q t'q ct'q h'q tk'q F'q N'q d1'q d2'q l1'q l2'q; (try dsimp only at N'q))
  | (k_dflt (refine' kla_hit (P := 653) ?z75xF ?z75xN ?z75xT ?z75xC ?z75xcd ?z75xmem ?z75xt ?z75xn ?z75xcl ?_; (case z75xF => k_asm); (case z75xN => k_asm); (case z75xT => k_asm); (case z75xcd => exact rfl); (case z75xC => exact codeHd_of_K (by k_asm) (by kernel_rfl)); (case z75xmem => k_mem); (case z75xt => kn_triples); (case z75xn => kn_hit); (case z75xcl => exact rfl); k_whole); intro f'q ct'q h'q tk'q F'q N'q l1'q; (try dsimp only at N'q))))
  k_with "S7 eval Lambda" => k_extra "ln 75"
  trivial

/-- newer than all of it -/
def Above (ext old : List (Addr × Obj)) : Prop := ∀ p ∈ ext, ∀ q ∈ old, q.1 < p.1
theorem Above.nil {old : List (Addr × Obj)} : Above [] old := fun _ h => nomatch h
theorem Above.cons {ext old : List (Addr × Obj)} {p : Addr × Obj} (h : ∀ q ∈ old, q.1 < p.1) (k : Above ext old) : Above (p :: ext) old := fun r hr => (List.mem_cons.mp hr).elim (fun e => e ▸ h) (k r)
theorem Above.off {ext old : List (Addr × Obj)} (h : Above ext old) {a : Addr} {o : Obj} (ha : (a, o) ∈ old) : ∀ p ∈ ext, p.1 ≠ a := fun p hp => Nat.ne_of_gt (h p hp _ ha)
theorem Offz.ext {z : Z} {ext rest : List (Addr × Obj)} {oSt oEx oEv oT oN : Obj} (h : Offz z rest) (k : Above ext ((z.st, oSt) :: (z.ex, oEx) :: (z.ev, oEv) :: (653, oT) :: (z.nw, oN) :: rest)) : Offz z (ext ++ rest) :=
  ⟨off_app (k.off (.head _)) h.a1, off_app (k.off (.tail _ (.head _))) h.a2, off_app (k.off (.tail _ (.tail _ (.head _)))) h.a3, off_app (k.off (.tail _ (.tail _ (.tail _ (.head _))))) h.a4, off_app (k.off (.tail _ (.tail _ (.tail _ (.tail _ (.head _)))))) h.a5⟩
theorem above_tail {x : Addr × Obj} {old : List (Addr × Obj)} {c : Addr} (h : ∀ q ∈ x :: old, q.1 < c) : ∀ q ∈ old, q.1 < c := fun q hq => h q (.tail _ hq)
theorem drop2 {h₀ h : Heap} {L : Addr} {a b : Addr × Obj} {l : List (Addr × Obj)} (N : News h₀ L h (a :: b :: l)) : News h₀ L h (a :: l) := cb_drop N fun p hp => (List.mem_cons.mp hp).elim (fun e => e ▸ .head _) (fun h => .tail _ (.tail _ h))
theorem gm_led {h₀ h : Heap} {L : Addr} {t f c l a1 a2 a3 a4 a5 : Addr × Obj} {r : List (Addr × Obj)} (N : News h₀ L h (t :: f :: c :: l :: a1 :: a2 :: a3 :: a4 :: a5 :: r)) : News h₀ L h (t :: a1 :: a2 :: a3 :: a4 :: a5 :: c :: r) :=
  cb_drop N (by walk_at "my_reord")
theorem gm_led2 {h₀ h : Heap} {L : Addr} {t f l : Addr × Obj} {r : List (Addr × Obj)} (N : News h₀ L h (t :: f :: l :: r)) : News h₀ L h (t :: r) :=
  cb_drop N (by walk_at "my_reord")
theorem Offz.fresh {z : Z} {rest : List (Addr × Obj)} {c' : Addr} {oc x oSt oEx oEv oT oN : Obj} {l : Addr} (h : Offz z rest) (l1 : ∀ q ∈ (l, x) :: (z.st, oSt) :: (z.ex, oEx) :: (z.ev, oEv) :: (653, oT) :: (z.nw, oN) :: rest, q.1 < c') : Offz z ((c', oc) :: rest) :=
  h.cons (Nat.ne_of_gt (l1 (z.st, oSt) (by k_mem))) (Nat.ne_of_gt (l1 (z.ex, oEx) (by k_mem))) (Nat.ne_of_gt (l1 (z.ev, oEv) (by k_mem))) (Nat.ne_of_gt (l1 (653, oT) (by k_mem))) (Nat.ne_of_gt (l1 (z.nw, oN) (by k_mem)))
set_option maxHeartbeats 8000000 in
theorem gmw_ok (B : Below A₀ base outer h₀) (F : Fr h₀ L s.heap m) (X : (kd.heap_1 w.params).In h₀) (N : News h₀ L s.heap news) (T : Top p loose mean mg mb h₀) (hk : cs.kind = .function) (hdp : dp ≤ 930) (hun : un ≤ 9380) {z : Z} {oSt oEx oEv oN : Obj} {ps : Array Value} {rest : List (Addr × Obj)} {kV : List (Str × Value)} {key : Str} {tk0 tk1 tk2 : Tok} {now W A : Int} {evs : List Int}
   (hn : news = (z.st, oSt) :: (z.ex, oEx) :: (z.ev, oEv) :: (653, tabObj ps) :: (z.nw, oN) :: rest) (hz : Okz z) (ho : Offz z rest)
   (hS : StoreIn w rest z) (hC : ClockIn ((z.nw, oN) :: rest) z.clk now) (ht : TabOk rest ps) (dV : oEv.IsDictOf (strKind prog w) kV) (hv : EvAt w rest kV key evs) (hd : Desc evs) (hb : evs.length ≤ 16777216)
   (ret : ∀ h' tk' r x u v n ps' ext, Fr h₀ L h' m → News h₀ L h' ((r, ({ cls := .type "tuple", data := .seq #[.int x u, .int (idx (now - W) evs) v] n } : Obj)) :: (z.st, oSt) :: (z.ex, oEx) :: (z.ev, oEv) :: (653, tabObj ps') :: (z.nw, oN) :: (ext ++ rest)) →
      Above ext ((z.st, oSt) :: (z.ex, oEx) :: (z.ev, oEv) :: (653, tabObj ps) :: (z.nw, oN) :: rest) → (∀ r0, TabOk r0 ps → TabOk (ext ++ r0) ps') → Q (.ref r) { s with heap := h', toks := tk' }) :
   wpAny (model prog w) (ktrTop dp un gd cn cs L a ccd cl outer) (call (.ref 658) [.ref z.self, .str key tk0, .int A tk1, .int W tk2]) Q E s := by
  subst hn
  obtain ⟨a1, a2, a3, a4, a5, a6, b1, b2, b3, b4, l1, l2, l3⟩ := hz
  obtain ⟨o1, o2, o3, o4, o5⟩ := id ho
  rcases hv with ⟨hv, rfl⟩ | ⟨l, vs, nn, hv, hl, he⟩
  · k_steps
    exact ret _ _ _ _ _ _ _ _ _ (by assumption) (drop2 (l := _ :: _ :: _ :: _ :: _ :: ([] ++ rest)) (by assumption)) .nil fun _ h => h
  · rcases ht with rfl | ⟨c', oc, vs', tq, rfl, c1, c2, c3⟩
    · k_steps
      · rename _ = (idx (- -(now - W)) evs : Int) => ek
        rw [Int.neg_neg] at ek
        rw [← ek] at ret
        exact ret _ _ _ _ _ _ _ _ [(_, _)] (by assumption) (gm_led (by assumption)) (.cons (above_tail (by assumption)) .nil) (fun _ _ => .inr ⟨_, _, _, _, rfl, .head _, by assumption, by assumption⟩)
      · subst evs
        exact ret _ _ _ _ _ _ _ _ _ (by assumption) (drop2 (l := _ :: _ :: _ :: _ :: _ :: ([] ++ rest)) (by assumption)) .nil fun _ h => h
    · k_steps
      · rename _ = (idx (- -(now - W)) evs : Int) => ek
        rw [Int.neg_neg] at ek
        rw [← ek] at ret
        exact ret _ _ _ _ _ _ _ _ [] (by assumption) (gm_led2 (by assumption)) .nil fun _ h => h
      · subst evs
        exact ret _ _ _ _ _ _ _ _ _ (by assumption) (drop2 (l := _ :: _ :: _ :: _ :: _ :: ([] ++ rest)) (by assumption)) .nil fun _ h => h
end
end
section
open Lean PySem PySem.Calls PySem.W PyProof.Rows PyProof.V PySem.Spec PyProof.Rows.LCg
local macro_rules | `(tactic| walk_at $s:str) => `(tactic| k_extra $(Lean.Syntax.mkStrLit ("Y1 " ++ s.getString)))
section
variable {prog : Program} {w : World} {p : Program} {loose : List Str} {mean : ExcName → Option Value} {mg mb : Str → Option Value} {dp un : Nat} {gd : Option (List Code)} {cn : Str} {cs : Scope} {a : Addr} {ccd : Value} {cl : List (Str × Addr)} {outer : List Env} {A₀ : Around} {base h₀ : Heap} {L : Addr} {m : Str → Option Value} {news : List (Addr × Obj)} {s : Shared} {Q E : Value → Shared → Prop}
theorem ln_Y1_1 : True := by
  try walk1
  k_with "Y1 k:k_room" => k_extra "ln 0"
  k_with "Y1 k:k_enter" => k_extra "ln 1"
  k_with "Y1 my_mem" => k_extra "ln 2"
  k_with "Y1 k:k_mem" => k_extra "ln 3"
  k_with "Y1 my_split" => k_extra "ln 4"
  k_with "Y1 my_ltf" => k_extra "ln 5"
  k_with "Y1 k:k_ne" => k_extra "ln 6"
  k_with "Y1 my_reord" => k_extra "ln 7"
  k_with "Y1 my_all" => k_extra "ln 8"
  k_with "Y1 k:k_all" => k_extra "ln 9"
  k_with "Y1 call builtin:len" => k_extra "ln 10"
  k_with "Y1 subscriptTail" => k_extra "ln 11"
  k_with "Y1 subscriptTail Name Name ref int" => k_extra "ln 11"
  k_with "Y1 subscriptTail" => k_extra "ln 12"
  k_with "Y1 subscriptTail Name Slice ref ref" => k_extra "ln 12"
  k_with "Y1 call builtin:sum" => k_extra "ln 13"
  trivial


section
variable {s' : Shared} {g h : Heap} {e : Addr} {name : Str} {scope : Scope} {cd : Value} {n : Str} {b₀ : Stmt} {suite : List Stmt} {pos np : Pos} {rest : List ExceptHandler} {Qf : Flow → Shared → Prop} {KF : Frag} {x : Str} {X' T' : String}
/-- an exception raised in a function's own suite and caught there, at any depth -/
theorem caught_own (hx : Heap.NewExc h s'.heap e X') (F : Fr g L h m) (N : News g L h news) (K : Below A₀ base outer g) (XB : KF.In base) (TB : Top p loose mean mg mb base) (D : KtsDicts (outer.filterMap (·.frame)) g)
    (ex : nsIn KF mainGlobals x = some none) (hv : bootBuiltins x = some (.type T')) (hn' : x ≠ "__name__")
    (hexc : isSubtype (.type T') (.type "BaseException") = pure true) (hnt : isSubtype (.type ((Manifest.find? T').elim "type" fun y => y.metatype)) (.type "tuple") = pure false) (hsub : isSubtype (.type X') (.type T') = pure true)
    (k : ∀ h' g', KtsTurn (outer.filterMap (·.frame)) g g' → Fr g' L h' m → News g' L h' news → Below A₀ base outer g' → KF.In g' → Top p loose mean mg mb g' → KtsDicts (outer.filterMap (·.frame)) g' →
      wpAny (model prog w) ((A₀.deeper (envOf name scope L a cd)).mark (some (.ref e))) (execs (b₀ :: suite) (envOf name scope L a cd)) Qf E { s' with heap := h' })
    (hk : scope.kind = .function := by rfl) (hx' : (envOf name scope L a cd).kindOf x = some .globalImplicit := by rfl) (hd' : (x == ("__debug__" : Str)) = false := by decide)
    (hE : PassesOwnAt (model prog w) ((A₀.deeper (envOf name scope L a cd)).mark (some (.ref e))) (A₀.deeper (envOf name scope L a cd)) (envOf name scope L a cd) E := by passes_own) :
    wpAny (model prog w) (A₀.deeper (envOf name scope L a cd)) (noteFrame (.ref e) (envOf name scope L a cd))
      (fun _ s₂ => wpAny (model prog w) (A₀.deeper (envOf name scope L a cd)) (setFlight (.ref e) none) (fun _ s₃ =>
        wpAny (model prog w) (A₀.deeper (envOf name scope L a cd)) (handleBy (.ref e) (envOf name scope L a cd) (.ExceptHandler (some (.Name x np)) none (b₀ :: suite) pos :: rest)) Qf E s₃) E s₂) E s' := by
  have K' := K.push (name := name) (a := a) (cd := cd) F hk
  have hin : ∀ env ∈ (envOf name scope L a cd :: outer), ∀ b, env.frame = some b → b ∈ (envOf name scope L a cd :: outer).filterMap (·.frame) := fun env he b hb => List.mem_filterMap.mpr ⟨env, he, hb⟩
  have hl : ∀ q ∈ news, (hideAll h ((envOf name scope L a cd :: outer).filterMap (·.frame))).get? q.1 = some q.2 ∧ g.get? q.1 = none ∧ base.get? q.1 = none := fun q hq => by
    refine ⟨hideAll_get _ (N q hq).1 fun hm => ?_, (N q hq).2.2, fresh_of_stays K.stays (N q hq).2.2⟩
    obtain ⟨env, he, hf⟩ := List.mem_filterMap.mp hm
    rcases List.mem_cons.mp he with rfl | he
    · exact (N q hq).2.1 (Option.some.inj hf).symm
    · obtain ⟨o, ho, _⟩ := (K.frames.mem (List.mem_filterMap.mpr ⟨env, he, hf⟩)).2
      rw [(N q hq).2.2] at ho; cases ho
  have hBG : ∀ b o, h.get? b = some o → b ∉ (envOf name scope L a cd :: outer).filterMap (·.frame) → (hideAll h ((envOf name scope L a cd :: outer).filterMap (·.frame))).get? b = some o := fun b o q nm => hideAll_get _ q nm
  obtain ⟨ob, tp, he, hcls, hd⟩ := hx.there
  have hen : (hideAll h ((envOf name scope L a cd :: outer).filterMap (·.frame))).get? e = none := by
    cases q : (hideAll h ((envOf name scope L a cd :: outer).filterMap (·.frame))).get? e with
    | none => rfl
    | some o => have := of_hideAll _ q; rw [hx.new] at this; cases this
  have hL : (hideAll h ((envOf name scope L a cd :: outer).filterMap (·.frame))).get? L = none := hideAll_none _ (List.mem_filterMap.mpr ⟨_, .head _, rfl⟩)
  have hf : (envOf name scope L a cd).frame = some L := rfl
  unfold noteFrame
  simp only [hf]
  refine wpAny_bind (wpAny_field (x := .none) he hd rfl ?_)
  rw [if_neg (by decide)]
  refine wpAny_newEntryW (a0 := tp) K'.stack ((funFrames_hide K'.frames hin).of_keeps fun b o hb _ => ⟨o, hx.keeps b o hb, rfl⟩) hf he (fun b o hb => hx.keeps b o (of_hideAll _ hb)) hen hd (by simp) rfl fun h₅ hLft => ?_
  obtain ⟨k1, k2, k3, k4⟩ := hLft
  have hheld : Heap.FlyingW (hideAll h ((envOf name scope L a cd :: outer).filterMap (·.frame))) (envOf name scope L a cd :: outer) e (.type X') tp h₅ := ⟨k1, hen, k2, by rw [← hcls]; exact k3⟩
  have hsm₅ : h.UpToSlots h₅ := (Heap.UpToSlots.of_keeps hx.keeps).trans k4
  obtain ⟨g₅, T₅, F₅, K₅⟩ := kts_ground K F hBG hheld.1 hsm₅
  have X₅ : KF.In g₅ := XB.keeps K₅.stays
  have P₅ : TopRead p loose mg mb g₅ := topRead_of (TB.keeps K₅.stays)
  obtain ⟨ob', hob, hobc⟩ := hheld.there
  refine wpAny_handleBy_builtin (X := X') (T := T') (b := true) hexc hnt hsub (name_B F₅ X₅ P₅ ex hv hn' ⟨rfl, ⟨ob', hob, hobc⟩, ?_⟩ hk hx' hd')
  refine lands_againW hheld fun h₆ hfl₆ hsm₆ => ?_
  obtain ⟨g₆, T₆, F₆, K₆⟩ := kts_ground K F hBG hfl₆.1 (hsm₅.trans hsm₆)
  have Nl : News g₆ L h₆ news := fun q hq => ⟨hfl₆.1 _ _ (hl q hq).1, (fun z => by have := (hl q hq).1; rw [z, hL] at this; cases this), T₆.none_ _ (hl q hq).2.1⟩
  exact wpAny_passesOwnAt hE (k h₆ g₆ T₆ F₆ Nl K₆ (XB.keeps K₆.stays) (TB.keeps K₆.stays) (D.turn T₆))
end
end
end
section
open Lean PySem PySem.Calls PySem.W PyProof.Rows PyProof.V PySem.Spec PyProof.Rows.LCg
local macro_rules | `(tactic| walk_at $s:str) => `(tactic| k_extra $(Lean.Syntax.mkStrLit ("Y2 " ++ s.getString)))
local macro_rules | `(tactic| walk_at "none") => `(tactic| fail)
section
variable {prog : Program} {w : World} {p : Program} {loose : List Str} {mean : ExcName → Option Value} {mg mb : Str → Option Value} {dp un : Nat} {gd : Option (List Code)} {cn : Str} {cs : Scope} {a : Addr} {ccd : Value} {cl : List (Str × Addr)} {outer : List Env} {A₀ : Around} {base h₀ : Heap} {L : Addr} {m : Str → Option Value} {news : List (Addr × Obj)} {s : Shared} {Q E : Value → Shared → Prop}
theorem ln_Y2_1 : True := by
  try walk1
  k_with "Y2 k:k_room" => k_extra "ln 0"
  k_with "Y2 k:k_enter" => k_extra "ln 1"
  k_with "Y2 my_mem" => k_extra "ln 2"
  k_with "Y2 k:k_mem" => k_extra "ln 3"
  k_with "Y2 my_split" => k_extra "ln 4"
  k_with "Y2 my_ltf" => k_extra "ln 5"
  k_with "Y2 k:k_ne" => k_extra "ln 6"
  k_with "Y2 my_reord" => k_extra "ln 7"
  k_with "Y2 my_all" => k_extra "ln 8"
  k_with "Y2 k:k_all" => k_extra "ln 9"
  k_with "Y2 call builtin:len" => k_extra "ln 10"
  k_with "Y2 subscriptTail" => k_extra "ln 11"
  k_with "Y2 subscriptTail Name Name ref int" => k_extra "ln 11"
  k_with "Y2 subscriptTail" => k_extra "ln 12"
  k_with "Y2 subscriptTail Name Slice ref ref" => k_extra "ln 12"
  k_with "Y2 call builtin:sum" => k_extra "ln 13"
  trivial


section
variable {A : Around} {env : Env} {KF : Frag} {R : Result → Shared → Prop} {name qual : Str} {params : Arguments} {body : List Stmt} {scope : Scope} {dV kV doc pm cdv ct oc : Value} {an od : Option Addr} {osl : Array (Option Value)} {f : Addr} {args : Args} {binds : List (Str × Value)}
theorem kts_enterX (B : Below A₀ base outer h₀) (F : Fr h₀ L s.heap m) (N : News h₀ L s.heap news) (hA : A.frames = some (env :: outer)) (hf : env.frame = some L) (hke : env.scope.kind = .function) :
    ∃ oL es ep, (hideAll s.heap (news.map (·.1))).get? L = some oL ∧ oL.data = .dict es ep ∧ (∀ h', h'.get? L = some oL → Heap.Ns h' L m) ∧ (∀ (sl : Array (Option Value)) h', h'.get? L = some { oL with slots := sl } → Heap.Ns h' L m) ∧
      h₀.StaysIn (hideAll s.heap (news.map (·.1))) ∧ Below A base (env :: outer) (hideAll s.heap (news.map (·.1))) := by
  obtain ⟨FG, BG, st, lv⟩ := groundX (R := fun _ _ => True) B F N hA hf hke
  obtain ⟨oL, es, ep, hL, hLd, hLk, hLf⟩ := F.ns
  have nL : L ∉ news.map (·.1) := fun q => by
    obtain ⟨p, hp, e⟩ := List.mem_map.mp q
    exact (N p hp).2.1 e
  have hLg := hideAll_get (news.map (·.1)) hL nL
  exact ⟨oL, es, ep, hLg, hLd, fun h' e => ⟨oL, es, ep, e, hLd, hLk, hLf⟩, fun sl h' e => ⟨_, es, ep, e, hLd, hLk, hLf⟩, st, BG⟩
theorem mem_frame1 {env : Env} {L b : Addr} (hf : env.frame = some L) : b ∈ [env].filterMap (·.frame) ↔ b = L := by
  simp [List.filterMap_cons, hf]
theorem code_defS0X (B : Below A₀ base [] h₀) (F : Fr h₀ L s.heap m) (X₀ : KF.In h₀) (N : News h₀ L s.heap news) (T : Top p loose mean mg mb h₀) (hA : A.frames = some [env]) (hf : env.frame = some L) (hke : env.scope.kind = .function)
    (ho : KF.lookup f = some ⟨oc, od, .func (fnOf name qual params body scope dV kV doc pm an cdv ct), osl⟩) (hcd : codeIn KF cdv qual = true) (hroom : A.depth < recursionLimit)
    (hbind : BindsTo s (fnOf name qual params body scope dV kV doc pm an cdv ct) args binds) (hloc : ∀ y ∈ binds, scope.names.lookup y.1 = some .local)
    (h : ∀ g L' h₁, Fr h₀ L g m → Fr g L' h₁ (fun y => binds.reverse.lookup y) → News g L' h₁ news → Below A base [env] g → KF.In g → Top p loose mean mg mb g → KtsDicts ([env].filterMap (·.frame)) g →
      wpAny (model prog w) (A.deeper (envOf qual scope L' f cdv)) (execs body (envOf qual scope L' f cdv))
        (fun fl s' => LeaveS0 ([env].filterMap (·.frame)) h₀ L m g R (match fl with | .ret v => v | _ => .none) s')
        (fun e s' => wpAny (model prog w) (A.deeper (envOf qual scope L' f cdv)) (leaving (envOf qual scope L' f cdv) e) (fun _ s'' => R (.error e) s'') (fun e' s'' => R (.error e') s'') s')
        { s with heap := h₁, toks := s.toks + binds.length })
    (hco : scope.isCoroutine = false) (hgen : scope.isGenerator = false) (hk : scope.kind = .function)
    (hcell : ∀ x ∈ scope.names, x.2 ≠ .cell) : codeAny (model prog w) A (.call (.ref f) args) R s := by
  have X := X₀.keeps F.keep
  refine codeAny_call_def (fd := fnOf name qual params body scope dV kV doc pm an cdv ct) (body := body) (binds := binds) hroom (X _ _ ho) rfl (T.nolimit.keeps F.keep) (codeRec_of X hcd) rfl hbind hcell hloc (fun h₁ hns hk₁ => ?_) hco hgen hk
  obtain ⟨oL, es, ep, hLg, hLd, hN, hNs, st, B₂⟩ := kts_enterX B F N hA hf hke
  refine wpAny_mono (h _ s.heap.objs.size h₁ ⟨hN _ hLg, st, F.above⟩ ⟨hns, fun b o e => hk₁ b o (of_hideAll _ e), Nat.le_of_eq (hideAll_size _ _)⟩
    (fun p hp => ⟨hk₁ _ _ (N p hp).1, Nat.ne_of_lt (Heap.lt_size (N p hp).1), hideAll_none _ (List.mem_map_of_mem hp)⟩) B₂ (X₀.keeps st) (T.keeps st) (fun b hb => by
      obtain rfl := (mem_frame1 hf).mp hb
      exact ⟨oL, es, ep, hLg, hLd⟩)) (fun fl s' hl => ?_) fun _ _ y => y
  obtain ⟨g', L', m', news', T', F', N', k⟩ := hl
  have nL₀ : h₀.get? L = none := kts_self F
  obtain ⟨sl, hs⟩ := T'.up hLg
  refine k ⟨hNs sl _ (F'.keep _ _ hs), fun b o e => F'.keep b o (T'.other b o (st b o e) (fun q => by
    rw [(mem_frame1 hf).mp q, nL₀] at e
    cases e)), F.above⟩ fun p hp => ⟨(N' p hp).1, fun q => ?_, ?_⟩
  · have := (N' p hp).2.2; rw [q, hs] at this; cases this
  · cases q : h₀.get? p.1 with
    | none => rfl
    | some o =>
      obtain ⟨sl', hs'⟩ := T'.up (st _ _ q)
      have := (N' p hp).2.2
      rw [hs'] at this
      cases this
end
end
end
section
open Lean PySem PySem.Calls PySem.W PyProof.Rows PyProof.V PySem.Spec PyProof.Rows.LCg
local macro_rules | `(tactic| walk_at $s:str) => `(tactic| k_extra $(Lean.Syntax.mkStrLit ("E1 " ++ s.getString)))
section
variable {prog : Program} {w : World} {p : Program} {loose : List Str} {mean : ExcName → Option Value} {mg mb : Str → Option Value} {dp un : Nat} {gd : Option (List Code)} {cn : Str} {cs : Scope} {a : Addr} {ccd : Value} {cl : List (Str × Addr)} {outer : List Env} {A₀ : Around} {base h₀ : Heap} {L : Addr} {m : Str → Option Value} {news : List (Addr × Obj)} {s : Shared} {Q E : Value → Shared → Prop}
theorem ln_E1_1 : True := by
  try walk1
  k_with "E1 k:k_room" => k_extra "ln 0"
  k_with "E1 k:k_enter" => k_extra "ln 1"
  k_with "E1 my_mem" => k_extra "ln 2"
  k_with "E1 k:k_mem" => k_extra "ln 3"
  k_with "E1 my_split" => k_extra "ln 4"
  k_with "E1 my_ltf" => k_extra "ln 5"
  k_with "E1 k:k_ne" => k_extra "ln 6"
  k_with "E1 my_reord" => k_extra "ln 7"
  k_with "E1 my_all" => k_extra "ln 8"
  k_with "E1 k:k_all" => k_extra "ln 9"
  k_with "E1 call builtin:len" => k_extra "ln 10"
  k_with "E1 subscriptTail" => k_extra "ln 11"
  k_with "E1 subscriptTail Name Name ref int" => k_extra "ln 11"
  k_with "E1 subscriptTail" => k_extra "ln 12"
  k_with "E1 subscriptTail Name Slice ref ref" => k_extra "ln 12"
  k_with "E1 call builtin:sum" => k_extra "ln 13"
  k_with "E1 my_rows" => k_extra "ln 15"
  k_with "E1 my_room" => k_extra "ln 16"
  k_with "E1 my_ctx" => k_extra "ln 17"
  k_with "E1 my_ctx0" => k_extra "ln 18"
  trivial

set_option maxHeartbeats 8000000 in
theorem entry_ok (B : Below A₀ base outer h₀) (F : Fr h₀ L s.heap m) (X : (kd.heap_1 w.params).In h₀) (N : News h₀ L s.heap news) (T : Top p loose mean mg mb h₀) (hk : cs.kind = .function) (hdp : dp ≤ 950) (hun : un ≤ 9500) {W now : Int} {t1 t2 : Tok}
   (ret : ∀ h' tk' x d ka kb ta tb, Fr h₀ L h' m → News h₀ L h' ((x, instObj 581 d) :: (d, dictOf [ent w "atime" ka (.int now ta), ent w "expiry" kb (.int (now + W) tb)] 2) :: news) → (∀ p ∈ news, p.1 < d) → d < x → Q (.ref x) { s with heap := h', toks := tk' }) :
   wpAny (model prog w) (ktrTop dp un gd cn cs L a ccd cl outer) (call (.ref 581) [.int W t1, .int now t2]) Q E s := by
  k_steps
  exact ret _ _ _ _ _ _ _ _ (by assumption) (by assumption) (by assumption) (by assumption)
end
end
section
open Lean PySem PySem.Calls PySem.W PyProof.Rows PyProof.V PySem.Spec PyProof.Rows.LCg
local macro_rules | `(tactic| walk_at $s:str) => `(tactic| k_extra $(Lean.Syntax.mkStrLit ("S8a " ++ s.getString)))
local macro_rules | `(tactic| walk_at "none") => `(tactic| fail)
section
variable {prog : Program} {w : World} {p : Program} {loose : List Str} {mean : ExcName → Option Value} {mg mb : Str → Option Value} {dp un : Nat} {gd : Option (List Code)} {cn : Str} {cs : Scope} {a : Addr} {ccd : Value} {cl : List (Str × Addr)} {outer : List Env} {A₀ : Around} {base h₀ : Heap} {L : Addr} {m : Str → Option Value} {news : List (Addr × Obj)} {s : Shared} {Q E : Value → Shared → Prop}
theorem ln_S8a_1 : True := by
  try walk1
  k_with "S8a k:k_room" => k_extra "ln 0"
  k_with "S8a k:k_enter" => k_extra "ln 1"
  k_with "S8a my_mem" => k_extra "ln 2"
  k_with "S8a k:k_mem" => k_extra "ln 3"
  k_with "S8a my_split" => k_extra "ln 4"
  k_with "S8a my_ltf" => k_extra "ln 5"
  k_with "S8a k:k_ne" => k_extra "ln 6"
  k_with "S8a my_reord" => k_extra "ln 7"
  k_with "S8a my_all" => k_extra "ln 8"
  k_with "S8a k:k_all" => k_extra "ln 9"
  k_with "S8a call builtin:len" => k_extra "ln 10"
  k_with "S8a subscriptTail" => k_extra "ln 11"
  k_with "S8a subscriptTail Name Name ref int" => k_extra "ln 11"
  k_with "S8a subscriptTail" => k_extra "ln 12"
  k_with "S8a subscriptTail Name Slice ref ref" => k_extra "ln 12"
  k_with "S8a call builtin:sum" => k_extra "ln 13"
  k_with "S8a my_rows" => k_extra "ln 15"
  k_with "S8a my_room" => k_extra "ln 16"
  k_with "S8a my_ctx" => k_extra "ln 17"
  k_with "S8a my_ctx0" => k_extra "ln 18"
  trivial

theorem va_map_self (k : Str) (v : Value) : ∀ kvs : List (Str × Value), kvs.any (fun kv => kv.1 = k) = true → valueAt (kvs.map fun kv => if kv.1 = k then (kv.1, v) else kv) k = some v
  | [], h => by simp at h
  | (a, b) :: r, h => by
    by_cases e : a = k
    · subst e; simp [valueAt]
    · have ih := va_map_self k v r (by simpa [e] using h)
      simp only [valueAt, List.map_cons, e, if_false] at ih ⊢
      rw [List.find?_cons_of_neg (by simpa using e)]
      exact ih
theorem va_map_ne (k k2 : Str) (v : Value) (hne : k2 ≠ k) : ∀ kvs : List (Str × Value), valueAt (kvs.map fun kv => if kv.1 = k then (kv.1, v) else kv) k2 = valueAt kvs k2
  | [] => rfl
  | (a, b) :: r => by
    have ih := va_map_ne k k2 v hne r
    simp only [valueAt, List.map_cons] at ih ⊢
    by_cases e : a = k
    · subst e
      simp only [if_true]
      rw [List.find?_cons_of_neg (by simpa using fun q => hne q.symm), List.find?_cons_of_neg (by simpa using fun q => hne q.symm)]
      exact ih
    · simp only [e, if_false]
      by_cases e2 : a = k2
      · subst e2; simp
      · rw [List.find?_cons_of_neg (by simpa using e2), List.find?_cons_of_neg (by simpa using e2)]
        exact ih
theorem va_stored (kvs : List (Str × Value)) (k : Str) (v : Value) : valueAt (stored kvs k v) k = some v := by
  unfold stored
  split
  · rename_i h; exact va_map_self k v kvs h
  · rename_i h
    have hn : kvs.find? (fun kv => kv.1 = k) = none := by
      simp only [List.any_eq_true, not_exists] at h
      rw [List.find?_eq_none]
      intro x hx; simpa using fun e => h x ⟨hx, by simpa using e⟩
    simp [valueAt, List.find?_append, hn]
theorem va_stored_ne (kvs : List (Str × Value)) (k k2 : Str) (v : Value) (hne : k2 ≠ k) : valueAt (stored kvs k v) k2 = valueAt kvs k2 := by
  unfold stored
  split
  · exact va_map_ne k k2 v hne kvs
  · simp only [valueAt, List.find?_append]
    rw [List.find?_cons_of_neg (by simpa using fun q => hne q.symm)]
    cases kvs.find? (fun kv => decide (kv.1 = k2)) <;> rfl
theorem stored_len_old (kvs : List (Str × Value)) (k : Str) (u v : Value) (h : valueAt kvs k = some u) : (stored kvs k v).length = kvs.length := by
  unfold stored
  have : kvs.any (fun kv => kv.1 = k) = true := by
    simp only [valueAt, Option.map_eq_some_iff] at h
    obtain ⟨x, hx, _⟩ := h
    exact List.any_eq_true.mpr ⟨x, List.mem_of_find?_eq_some hx, by simpa using List.find?_some hx⟩
  rw [if_pos this, List.length_map]
/-- what a hit of a moving window does -/
def acqR (now W A c : Int) (evs : List Int) : Bool × List Int :=
  if A < c then (false, evs) else match evs[(A - c).toNat]? with
    | some t => if now - W ≤ t then (false, evs) else (true, List.replicate c.toNat now ++ evs)
    | none => (true, List.replicate c.toNat now ++ evs)
theorem flat_rep (v : Value) : ∀ n, (List.replicate n [v]).flatten = List.replicate n v
  | 0 => rfl
  | n + 1 => by simp [List.replicate_succ, flat_rep v n]
section
variable {A : Around} {led : List (Addr × Obj)}
theorem ent_out {value slice : PySem.Expr} {l : Addr} {vs : List Value} {n : Nat} {evs : List Int} {k : Int} {u : Tok} (N : News h₀ L s.heap led) (hm : (l, listOf vs.toArray n) ∈ led) (hr : EntsAre w news vs evs)
    (h1 : (evs.length : Int) ≤ k) (hfit : k < 2 ^ 63) (hA : A.handled = none)
    (h : ∀ h' tk e, Heap.NewExc s.heap h' e "IndexError" → E (.ref e) { s with heap := h', toks := tk })
    (hs : subscripted slice false (.ref l) (.int k u) = operate [.ref l, .int k u] (getItem (.ref l) (.int k u)) := by with_unfolding_all rfl) :
    wpAny (model prog w) A (subscriptTail value slice (.ref l) (.int k u)) Q E s := by
  have hsz : vs.toArray.size = evs.length := by rw [List.size_toArray, hr.length]
  exact item_outK hA (heap_list N hm) (.inr (by rw [hsz]; exact h1)) (by omega) hfit h hs
theorem ent_item_at {value slice : PySem.Expr} {l : Addr} {vs : List Value} {n : Nat} {evs : List Int} {k t : Int} {u : Tok} (N : News h₀ L s.heap led) (hm : (l, listOf vs.toArray n) ∈ led) (hr : EntsAre w news vs evs)
    (ht : evs[k.toNat]? = some t) (h0 : 0 ≤ k) (hfit : k < 2 ^ 63)
    (h : ∀ (a : Addr), EntAt w news (.ref a) t → Q (.ref a) s)
    (hs : subscripted slice false (.ref l) (.int k u) = operate [.ref l, .int k u] (getItem (.ref l) (.int k u)) := by with_unfolding_all rfl) :
    wpAny (model prog w) A (subscriptTail value slice (.ref l) (.int k u)) Q E s := by
  have hlt := (List.getElem?_eq_some_iff.mp ht).1
  refine ent_item N hm hr h0 (by omega) hfit (fun a t' e1 e2 => ?_) hs
  rw [ht] at e1; cases e1
  exact h a e2
theorem mul_one (F : Fr h₀ L s.heap m) (N : News h₀ L s.heap led) {l : Addr} {v : Value} {n : Nat} {c : Int} {u : Tok} (hm : (l, listOf #[v] n) ∈ led) (h0 : 0 ≤ c) (h1 : c ≤ 200)
    (h : ∀ D h', Fr h₀ L h' m → News h₀ L h' ((D, listOf (List.replicate c.toNat v).toArray 0) :: led) → (∀ p ∈ led, p.1 < D) → Q (.ref D) { s with heap := h' }) : wpAny (model prog w) A (binaryOp .Mult (.ref l) (.int c u)) Q E s :=
  KMa.mul (vs := [v]) F N (heap_list N hm) (by omega) (by omega) (by simp; omega) (flat_rep v _) h
theorem add_two (F : Fr h₀ L s.heap m) (N : News h₀ L s.heap led) {a b : Addr} {vs ws : List Value} {n k : Nat} (ha : (a, listOf vs.toArray n) ∈ led) (hb : (b, listOf ws.toArray k) ∈ led) (hz : vs.length + ws.length ≤ sizeLine)
    (h : ∀ D h', Fr h₀ L h' m → News h₀ L h' ((D, listOf (vs ++ ws).toArray 0) :: led) → (∀ p ∈ led, p.1 < D) → Q (.ref D) { s with heap := h' }) : wpAny (model prog w) A (binaryOp .Add (.ref a) (.ref b)) Q E s :=
  add_lists F N (heap_list N ha) (heap_list N hb) (fun h' F' N' => h _ h' F' N' fun p hp => Heap.lt_size (N p hp).1) hz
end
theorem len_fits {n : Nat} (h : n ≤ 1000) : n ≤ sizeLine := by rw [sizeLine_eq]; omega
theorem all_lt_trans {n : List (Addr × Obj)} {d x : Addr} (h : ∀ p ∈ n, p.1 < d) (k : d < x) : ∀ p ∈ n, p.1 < x := fun p hp => Nat.lt_trans (h p hp) k
theorem rep_fits {v : Value} {vs : List Value} {c : Int} (h : c ≤ 200) (hv : vs.length ≤ 1000) : (List.replicate c.toNat v).length + vs.length ≤ sizeLine := by
  rw [sizeLine_eq, List.length_replicate]; omega
theorem ltN {a b : Nat} (h : a < b) : a < b := h
theorem fin_led {h₀ h : Heap} {L : Addr} {g1 g2 g3 g4 g5 g6 a1 a2 a3 a4 a5 : Addr × Obj} {r : List (Addr × Obj)} (N : News h₀ L h (g1 :: g2 :: g3 :: g4 :: g5 :: g6 :: a1 :: a2 :: a3 :: a4 :: a5 :: r)) : News h₀ L h (a1 :: a2 :: a3 :: a4 :: a5 :: g1 :: g2 :: g3 :: g4 :: g5 :: g6 :: r) :=
  cb_drop N (by walk_at "my_reord")
theorem ev_new {w : World} {rest : List (Addr × Obj)} {kV : List (Str × Value)} {key : Str} {now c e : Int} {evs : List Int} {vs : List Value} {D D1 l x d l1 : Addr} {o1 o2 o3 : Obj} {ka kb ta tb : Tok} {n0 : Nat} (h : valueAt kV key = some (.ref D)) (he : EntsAre w rest vs evs) :
    EvAt w ((D, listOf (List.replicate c.toNat (Value.ref x) ++ vs).toArray n0) :: (D1, o1) :: (l, o2) :: (x, instObj 581 d) :: (d, dictOf [ent w "atime" ka (.int now ta), ent w "expiry" kb (.int e tb)] 2) :: (l1, o3) :: rest) kV key (List.replicate c.toNat now ++ evs) :=
  .inr ⟨D, _, n0, h, .head _, EntsAre.append (EntsAre.rep ⟨x, d, ka, kb, ta, tb, e, rfl, .tail _ (.tail _ (.tail _ (.head _))), .tail _ (.tail _ (.tail _ (.tail _ (.head _))))⟩ _) (he.mono fun p hp => .tail _ (.tail _ (.tail _ (.tail _ (.tail _ (.tail _ hp))))))⟩
theorem ev_again {w : World} {h₀ h : Heap} {L : Addr} {led rest r0 : List (Addr × Obj)} {kV : List (Str × Value)} {key : Str} {evs : List Int} {l : Addr} {vs : List Value} {n : Nat} (N : News h₀ L h led) (hs : ∀ p ∈ rest, p ∈ led) (hl : (l, listOf vs.toArray n) ∈ rest) (hv : valueAt kV key = some (.ref l))
    (h0 : ∀ p ∈ r0, p ∈ rest) (h1 : EvAt w r0 kV key evs) : EntsAre w r0 vs evs := by
  rcases h1 with ⟨h2, _⟩ | ⟨l', vs', n', h2, h3, h4⟩
  · rw [hv] at h2; cases h2
  · rw [hv] at h2; cases h2
    have e1 := (N _ (hs _ hl)).1
    have e2 := (N _ (hs _ (h0 _ h3))).1
    rw [e1] at e2
    have e3 : vs.toArray = vs'.toArray := by
      have := Option.some.inj e2
      simp only [PySem.W.listOf, Obj.mk.injEq, Data.seq.injEq] at this
      exact this.2.2.1.1
    have e4 : vs = vs' := by simpa using e3
    exact e4 ▸ h4
theorem allLt_mem {d : Addr} : ∀ {l : List (Addr × Obj)}, AllLt d l → ∀ p ∈ l, p.1 < d
  | [], _, _, h => nomatch h
  | _ :: _, ⟨a, b⟩, p, h => (List.mem_cons.mp h).elim (fun e => e ▸ a) (allLt_mem b p)
theorem above6 {z : Z} {x : Addr} {rest : List (Addr × Obj)} {oSt oEx oEv oT oN : Obj} (h1 : z.st < x) (h2 : z.ex < x) (h3 : z.ev < x) (h4 : 653 < x) (h5 : z.nw < x) (h6 : AllLt x rest) :
    ∀ q ∈ (z.st, oSt) :: (z.ex, oEx) :: (z.ev, oEv) :: (653, oT) :: (z.nw, oN) :: rest, q.1 < x := by
  intro q hq
  simp only [List.mem_cons] at hq
  rcases hq with rfl | rfl | rfl | rfl | rfl | hq
  · exact h1
  · exact h2
  · exact h3
  · exact h4
  · exact h5
  · exact allLt_mem h6 q hq
def AcqRet (p : Program) (loose : List Str) (mean : ExcName → Option Value) (mg mb : Str → Option Value) (A₀ : Around) (base : Heap) (outer : List Env) (h₀ : Heap) (L : Addr) (m : Str → Option Value) (prog : Program) (w : World) (z : Z) (oSt oEx oEv oT oN : Obj) (rest : List (Addr × Obj)) (kV : List (Str × Value)) (key : Str) (evs : List Int) (b : Bool) (evs' : List Int) (s : Shared) (Q : Value → Shared → Prop) : Prop :=
  ∀ h' tk' oEv' kV' ext h₁, KtsTurn (outer.filterMap (·.frame)) h₀ h₁ → Fr h₁ L h' m → News h₁ L h' ((z.st, oSt) :: (z.ex, oEx) :: (z.ev, oEv') :: (653, oT) :: (z.nw, oN) :: (ext ++ rest)) →
      Below A₀ base outer h₁ → (kd.heap_1 w.params).In h₁ → Top p loose mean mg mb h₁ → KtsDicts (outer.filterMap (·.frame)) h₁ →
      Above ext ((z.st, oSt) :: (z.ex, oEx) :: (z.ev, oEv) :: (653, oT) :: (z.nw, oN) :: rest) → oEv'.IsDictOf (strKind prog w) kV' → kV'.length ≤ kV.length + 1 → (∀ r0, (∀ p ∈ r0, p ∈ rest) → EvAt w r0 kV key evs → EvAt w (ext ++ r0) kV' key evs') → (∀ k2, k2 ≠ key → valueAt kV' k2 = valueAt kV k2) →
      Q (.bool b) { s with heap := h', toks := tk' }
end
end
section
open Lean PySem PySem.Calls PySem.W PyProof.Rows PyProof.V PySem.Spec PyProof.Rows.LCg
local macro_rules | `(tactic| walk_at $s:str) => `(tactic| k_extra $(Lean.Syntax.mkStrLit ("S8b " ++ s.getString)))
section
variable {prog : Program} {w : World} {p : Program} {loose : List Str} {mean : ExcName → Option Value} {mg mb : Str → Option Value} {dp un : Nat} {gd : Option (List Code)} {cn : Str} {cs : Scope} {a : Addr} {ccd : Value} {cl : List (Str × Addr)} {outer : List Env} {A₀ : Around} {base h₀ : Heap} {L : Addr} {m : Str → Option Value} {news : List (Addr × Obj)} {s : Shared} {Q E : Value → Shared → Prop}
theorem ln_S8b_1 : True := by
  try walk1
  k_with "S8b k:k_room" => k_extra "ln 0"
  k_with "S8b k:k_enter" => k_extra "ln 1"
  k_with "S8b my_mem" => k_extra "ln 2"
  k_with "S8b k:k_mem" => k_extra "ln 3"
  k_with "S8b my_split" => k_extra "ln 4"
  k_with "S8b my_ltf" => k_extra "ln 5"
  k_with "S8b k:k_ne" => k_extra "ln 6"
  k_with "S8b my_reord" => k_extra "ln 7"
  k_with "S8b my_all" => k_extra "ln 8"
  k_with "S8b k:k_all" => k_extra "ln 9"
  k_with "S8b call builtin:len" => k_extra "ln 10"
  k_with "S8b subscriptTail" => k_extra "ln 11"
  k_with "S8b subscriptTail Name Name ref int" => k_extra "ln 11"
  k_with "S8b subscriptTail" => k_extra "ln 12"
  k_with "S8b subscriptTail Name Slice ref ref" => k_extra "ln 12"
  k_with "S8b call builtin:sum" => k_extra "ln 13"
  k_with "S8b my_rows" => k_extra "ln 15"
  k_with "S8b my_room" => k_extra "ln 16"
  k_with "S8b my_ctx" => k_extra "ln 17"
  k_with "S8b my_ctx0" => k_extra "ln 18"
  k_with "ln 76" => ((k_here; (with_reducible show wpAny _ _ (subscriptTail _ _ (Value.ref _) (Value.int _ _)) _ _ _); refine Stop.out ?_))
  k_with "S8b subscriptTail" => k_extra "ln 76"
  k_with "S8b my_store" => k_extra "ln 38"
  k_with "S8b my_clock" => k_extra "ln 39"
  k_with "S8b getAttr ref" => k_extra "ln 40"
  k_with "S8b getAttr ref" => k_extra "ln 41"
  k_with "S8b getAttr ref" => k_extra "ln 42"
  k_with "S8b getMethod ref" => k_extra "ln 43"
  k_with "S8b getMethod ref" => k_extra "ln 44"
  k_with "S8b getMethod ref" => k_extra "ln 45"
  k_with "S8b getMethod ref" => k_extra "ln 46"
  k_with "S8b getMethod ref" => k_extra "ln 47"
  k_with "S8b call ref" => k_extra "ln 48"
  k_with "S8b getMethod ref" => k_extra "ln 49"
  k_with "S8b getMethod ref" => k_extra "ln 50"
  k_with "S8b callWith ref" => k_extra "ln 51"
  k_with "S8b my_val" => k_extra "ln 52"
  k_with "S8b my_size" => k_extra "ln 53"
  k_with "S8b call builtin:dict.get" => k_extra "ln 54"
  k_with "S8b call builtin:dict.pop" => k_extra "ln 55"
  k_with "S8b subscriptTail" => k_extra "ln 56"
  k_with "S8b subscriptTail Attribute Name Name ref str" => k_extra "ln 56"
  k_with "S8b setItem ref str" => k_extra "ln 57"
  k_with "S8b my_key" => k_extra "ln 60"
  k_with "S8b my_ents" => k_extra "ln 61"
  k_with "S8b my_ent" => k_extra "ln 62"
  k_with "S8b call builtin:len" => k_extra "ln 63"
  k_with "S8b subscriptTail" => k_extra "ln 64"
  k_with "S8b subscriptTail Name Name ref int" => k_extra "ln 64"
  k_with "S8b getAttr ref" => k_extra "ln 65"
  k_with "S8b binaryOp Add ref ref" => k_extra "ln 14"
  k_with "S8b binaryOp Mult ref int" => k_extra "ln 14"
  k_with "S8b setItem ref str" => k_extra "ln 14"
  k_with "S8b call builtin:dict.setdefault" => k_extra "ln 14"
  k_with "S8b noteFrame ref" => k_extra "ln 14"
  k_with "ln 77" => (first | (refine len_fits (by assumption)) | (rw [sizeLine_eq]; omega) | exact Nat.le_trans (stored_length_le _ _ _) (by rw [sizeLine_eq]; omega))
  k_with "S8b my_size" => k_extra "ln 77"
  k_with "S8b setItem ref str" => k_extra "ln 57"
  k_with "ln 78" => (first | assumption | exact va_stored _ _ _)
  k_with "S8b my_val" => k_extra "ln 78"
  k_with "ln 79" => ((k_here; (with_reducible show wpAny _ _ (getMethod (Value.ref _) (Str.ofString "setdefault") _) _ _ _); k_dflt (refine' kob_method (knd := PySem.strKind _ _) PySem.F.slot_dict_setdefault PySem.F.type_dict_setdefault ?z79xN ?z79xm ?z79xd ?_; (case z79xN => k_asm); (case z79xm => k_mem); (case z79xd => k_asm); k_whole)))
  k_with "S8b getMethod ref" => k_extra "ln 79"
  k_with "ln 80" => ((k_here; k_dflt (first
  | (refine' kob_setdef_there (knd := PySem.strKind _ _) ?z80xN ?z80xm ?z80xd ?z80xo (strKind_is _ _ _ _) (PySem.F.args_dict_setdefault_3 _ _ _) ?z80xl ?z80xz ?_; (case z80xN => k_asm); (case z80xm => k_mem); (case z80xd => k_asm); (case z80xo => k_asm); (case z80xl => assumption); (case z80xz => walk_at "my_size"); k_whole)
  | (refine' kob_setdef_new (knd := PySem.strKind _ _) ?z80xF ?z80xN ?z80xU ?z80xd ?z80xo (strKind_is _ _ _ _) (PySem.F.args_dict_setdefault_3 _ _ _) ?z80xl ?z80xz ?_; (case z80xF => k_asm); (case z80xN => k_asm); (case z80xU => k_updF); (case z80xd => k_asm); (case z80xo => k_asm); (case z80xl => assumption); (case z80xz => walk_at "my_size"); k_whole; intro h'q o'q F'q N'q hd'q; (try dsimp only at N'q)))))
  k_with "S8b call builtin:dict.setdefault" => k_extra "ln 80"
  k_with "ln 81" => ((k_here; (with_reducible show wpAny _ _ (subscriptTail _ _ (Value.ref _) (Value.int _ _)) _ _ _); k_dflt (refine' ent_out ?z81xN ?z81xm ?z81xr ?z81xa ?z81xb ?z81xc ?_ ?z81xd; (case z81xN => k_asm); (case z81xm => k_mem); (case z81xr => first | exact EntsAre.nil (led := []) | walk_at "my_ents"); (case z81xa => assumption); (case z81xb => assumption); (case z81xc => exact rfl); (case z81xd => with_unfolding_all rfl); k_whole); intro h'q tk'q e'q x'q))
  k_with "S8b subscriptTail" => k_extra "ln 81"
  k_with "S8b subscriptTail Subscript Attribute Name BinOp ref int" => k_extra "ln 81"
  k_with "ln 82" => ((k_here; k_dflt (refine' mul_one ?z82xF ?z82xN ?z82xm ?z82xa ?z82xb ?_; (case z82xF => k_asm); (case z82xN => k_asm); (case z82xm => k_mem); (case z82xa => assumption); (case z82xb => assumption); k_whole); intro D'q h'q F'q N'q l1; (try k_lt l1)))
  k_with "S8b binaryOp Mult ref int" => k_extra "ln 82"
  k_with "ln 83" => ((k_here; k_dflt (refine' add_two ?z83xF ?z83xN ?z83xa ?z83xb ?z83xz ?_; (case z83xF => k_asm); (case z83xN => k_asm); (case z83xa => k_mem); (case z83xb => k_mem); (case z83xz => first | exact rep_fits (by assumption) (by assumption) | exact rep_fits (by assumption) (Nat.zero_le _)); k_whole); intro D'q h'q F'q N'q l1; (try k_lt l1)))
  k_with "S8b binaryOp Add ref ref" => k_extra "ln 83"
  k_with "ln 84" => ((k_here; (with_reducible show wpAny _ _ (call (Value.ref 581) _) _ _ _); k_dflt (refine' entry_ok ?zcB ?zcF ?zcX ?zcN ?zcT ?zchk ?zcdp ?zcun ?_; (walk_at "my_ctx"); k_whole); intro h'q tk'q x'q d'q ka'q kb'q ta'q tb'q F'q N'q l1 l2; (have l3 := all_lt_trans l1 l2); (try k_lt l1); (try k_lt l3)))
  k_with "S8b call ref" => k_extra "ln 84"
  k_with "ln 85" => ((k_here; (rename Heap.NewExc _ _ _ _ => nx'q); k_dflt (refine' caught_own (T' := "IndexError") nx'q ?z85xF ?z85xN ?z85xK ?z85xXB ?z85xTB ?z85xD ?z85xex PyProof.Rows.Boot.«IndexError» ?z85xhn PySem.F.isExc_IndexError PySem.F.notTuple_IndexError ?z85xhs ?_; (case z85xF => k_asm); (case z85xN => k_asm); (case z85xK => k_asm); (case z85xXB => assumption); (case z85xTB => assumption); (case z85xD => assumption); (case z85xex => k_is); (case z85xhn => decide); (case z85xhs => kts_sub); k_whole); clear nx'q; intro h'q g'q T'q F'q N'q K'q X'q P'q D'q; (try k_lift K'q)))
  k_with "S8b noteFrame ref" => k_extra "ln 85"
  k_with "ln 86" => ((k_here; (with_reducible show wpAny _ _ (call (Value.ref 644) _ _) _ _ _); refine wpAny_call ?_; k_dflt (refine' code_defS ?z86xk1 ?z86xk2 ?z86xk3 ?z86xk4 ?z86xk5 ?z86xXB ?z86xTB ?z86xD ?z86xT0 ?z86xkA ?z86xk6 ?z86xk7 ?z86xk8 ?z86xk9 ?z86xkB ?_ ?z86xcK ?z86xc2 ?z86xc3 ?z86xc4 ?z86xc5; (case z86xkA => exact rfl); (case z86xk2 => k_asm); (case z86xk1 => k_asm); (case z86xXB => assumption); (case z86xTB => assumption); (case z86xD => assumption); (case z86xT0 => exact KtsTurn.refl); (case z86xk3 => k_asm); (case z86xk4 => k_asm); (case z86xk5 => k_asm); (case z86xk6 => k_is); (case z86xk7 => k_is); (case z86xk8 => k_room); (case z86xk9 => first | exact BindsTo.of_eq rfl | exact binds_K (by k_in) rfl (by k_is) rfl rfl rfl); (case z86xkB => exact locs rfl); (case z86xcK => assumption); (case z86xc2 => exact rfl); (case z86xc3 => exact rfl); (case z86xc4 => exact rfl); (case z86xc5 => decide); k_whole; intro g'q L'q h'q FG'q F'q N'q B'q X'q T'q D'q; (try dsimp only); (try k_lift B'q); (try k_fold))))
  k_with "S8b call ref" => k_extra "ln 86"
  trivial


set_option maxHeartbeats 8000000 in
theorem acq_big (XB : (kd.heap_1 w.params).In base) (TB : Top p loose mean mg mb base) (D : KtsDicts (outer.filterMap (·.frame)) h₀) (B : Below A₀ base outer h₀) (F : Fr h₀ L s.heap m) (X : (kd.heap_1 w.params).In h₀) (N : News h₀ L s.heap news) (T : Top p loose mean mg mb h₀) (hk : cs.kind = .function) (hdp : dp ≤ 930) (hun : un ≤ 9380)
   {z : Z} {oSt oEx oEv oT oN : Obj} {rest : List (Addr × Obj)} {kV : List (Str × Value)} {key : Str} {tk0 tk1 tk2 tk3 : Tok} {now W A c : Int} {evs : List Int}
   (hn : news = (z.st, oSt) :: (z.ex, oEx) :: (z.ev, oEv) :: (653, oT) :: (z.nw, oN) :: rest) (hz : Okz z) (ho : Offz z rest)
   (hS : StoreIn w rest z) (hC : ClockIn ((z.nw, oN) :: rest) z.clk now) (dV : oEv.IsDictOf (strKind prog w) kV) (hlen : kV.length ≤ 1000) (hc : 1 ≤ c) (hA : A ≤ 9) (hv : EvAt w rest kV key evs) (hAc : A < c)
   (ret : AcqRet p loose mean mg mb A₀ base outer h₀ L m prog w z oSt oEx oEv oT oN rest kV key evs (acqR now W A c evs).1 (acqR now W A c evs).2 s Q) :
   wpAny (model prog w) (ktrTop dp un gd cn cs L a ccd [] outer) (call (.ref 644) [.ref z.self, .str key tk0, .int A tk1, .int W tk2] [(Str.ofString "amount", .int c tk3)]) Q E s := by
  subst hn
  obtain ⟨a1, a2, a3, a4, a5, a6, b1, b2, b3, b4, l1, l2, l3⟩ := hz
  obtain ⟨o1, o2, o3, o4, o5⟩ := id ho
  have hR : acqR now W A c evs = (false, evs) := by simp [acqR, hAc]
  rw [hR] at ret
  k_steps
  exact ret _ _ _ _ [] _ KtsTurn.refl (by assumption) (by assumption) (by assumption) (by assumption) (by assumption) (by assumption) Above.nil dV (by omega) (fun _ _ h => h) (fun _ _ => rfl)
set_option maxHeartbeats 8000000 in
theorem acq_new (XB : (kd.heap_1 w.params).In base) (TB : Top p loose mean mg mb base) (D : KtsDicts (outer.filterMap (·.frame)) h₀) (B : Below A₀ base outer h₀) (F : Fr h₀ L s.heap m) (X : (kd.heap_1 w.params).In h₀) (N : News h₀ L s.heap news) (T : Top p loose mean mg mb h₀) (hk : cs.kind = .function) (hdp : dp ≤ 930) (hun : un ≤ 9380)
   {z : Z} {oSt oEx oEv oT oN : Obj} {rest : List (Addr × Obj)} {kV : List (Str × Value)} {key : Str} {tk0 tk1 tk2 tk3 : Tok} {now W A c : Int} {evs : List Int}
   (hn : news = (z.st, oSt) :: (z.ex, oEx) :: (z.ev, oEv) :: (653, oT) :: (z.nw, oN) :: rest) (hz : Okz z) (ho : Offz z rest)
   (hS : StoreIn w rest z) (hC : ClockIn ((z.nw, oN) :: rest) z.clk now) (dV : oEv.IsDictOf (strKind prog w) kV) (hlen : kV.length ≤ 1000) (hc : 1 ≤ c) (hA : A ≤ 9) (hv : valueAt kV key = none) (hAc : ¬ A < c) (he0 : evs = [])
   (ret : AcqRet p loose mean mg mb A₀ base outer h₀ L m prog w z oSt oEx oEv oT oN rest kV key evs (acqR now W A c evs).1 (acqR now W A c evs).2 s Q) :
   wpAny (model prog w) (ktrTop dp un gd cn cs L a ccd [] outer) (call (.ref 644) [.ref z.self, .str key tk0, .int A tk1, .int W tk2] [(Str.ofString "amount", .int c tk3)]) Q E s := by
  subst hn
  subst he0
  obtain ⟨a1, a2, a3, a4, a5, a6, b1, b2, b3, b4, l1, l2, l3⟩ := hz
  obtain ⟨o1, o2, o3, o4, o5⟩ := id ho
  have hR : acqR now W A c [] = (true, List.replicate c.toNat now ++ []) := by simp [acqR, hAc]
  rw [hR] at ret
  have h0c : 0 ≤ c := by omega
  have h2c : c ≤ 200 := by omega
  have hfit : A - c < 2 ^ 63 := by omega
  have hao : (([] : List Int).length : Int) ≤ A - c := by simp only [List.length_nil]; omega
  k_steps
  refine ret _ _ _ _ [_, _, _, _, _, _] _ (by assumption) (by assumption) (fin_led (by assumption)) (by assumption) (by assumption) (by assumption) (by assumption) ?ab (by assumption) ?len (fun _ _ _ => ev_new (va_stored _ _ _) .nil) ?ne
  case ab =>
    walk_at "my_split"
    exact .cons (above6 (by assumption) (by assumption) (by assumption) (by assumption) (by assumption) (by assumption)) (.cons (above6 (by assumption) (by assumption) (by assumption) (by assumption) (by assumption) (by assumption)) (.cons (above6 (by assumption) (by assumption) (by assumption) (by assumption) (by assumption) (by assumption)) (.cons (above6 (by assumption) (by assumption) (by assumption) (by assumption) (by assumption) (by assumption)) (.cons (above6 (by assumption) (by assumption) (by assumption) (by assumption) (by assumption) (by assumption)) (.cons (above6 (by assumption) (by assumption) (by assumption) (by assumption) (by assumption) (by assumption)) .nil)))))
  case len =>
    rw [stored_len_old _ _ _ _ (va_stored _ _ _)]; exact stored_length_le _ _ _
  case ne =>
    intro k2 hk2
    rw [va_stored_ne _ _ _ _ hk2, va_stored_ne _ _ _ _ hk2]
end
end
section
open Lean PySem PySem.Calls PySem.W PyProof.Rows PyProof.V PySem.Spec PyProof.Rows.LCg
local macro_rules | `(tactic| walk_at $s:str) => `(tactic| k_extra $(Lean.Syntax.mkStrLit ("S8c " ++ s.getString)))
local macro_rules | `(tactic| walk_at "none") => `(tactic| fail)
section
variable {prog : Program} {w : World} {p : Program} {loose : List Str} {mean : ExcName → Option Value} {mg mb : Str → Option Value} {dp un : Nat} {gd : Option (List Code)} {cn : Str} {cs : Scope} {a : Addr} {ccd : Value} {cl : List (Str × Addr)} {outer : List Env} {A₀ : Around} {base h₀ : Heap} {L : Addr} {m : Str → Option Value} {news : List (Addr × Obj)} {s : Shared} {Q E : Value → Shared → Prop}
theorem ln_S8c_1 : True := by
  try walk1
  k_with "S8c k:k_room" => k_extra "ln 0"
  k_with "S8c k:k_enter" => k_extra "ln 1"
  k_with "S8c my_mem" => k_extra "ln 2"
  k_with "S8c k:k_mem" => k_extra "ln 3"
  k_with "S8c my_split" => k_extra "ln 4"
  k_with "S8c my_ltf" => k_extra "ln 5"
  k_with "S8c k:k_ne" => k_extra "ln 6"
  k_with "S8c my_reord" => k_extra "ln 7"
  k_with "S8c my_all" => k_extra "ln 8"
  k_with "S8c k:k_all" => k_extra "ln 9"
  k_with "S8c call builtin:len" => k_extra "ln 10"
  k_with "S8c subscriptTail" => k_extra "ln 11"
  k_with "S8c subscriptTail Name Name ref int" => k_extra "ln 11"
  k_with "S8c subscriptTail" => k_extra "ln 12"
  k_with "S8c subscriptTail Name Slice ref ref" => k_extra "ln 12"
  k_with "S8c call builtin:sum" => k_extra "ln 13"
  k_with "S8c my_rows" => k_extra "ln 15"
  k_with "S8c my_room" => k_extra "ln 16"
  k_with "S8c my_ctx" => k_extra "ln 17"
  k_with "S8c my_ctx0" => k_extra "ln 18"
  k_with "S8c subscriptTail" => k_extra "ln 76"
  k_with "S8c my_store" => k_extra "ln 38"
  k_with "S8c my_clock" => k_extra "ln 39"
  k_with "S8c getAttr ref" => k_extra "ln 40"
  k_with "S8c getAttr ref" => k_extra "ln 41"
  k_with "S8c getAttr ref" => k_extra "ln 42"
  k_with "S8c getMethod ref" => k_extra "ln 43"
  k_with "S8c getMethod ref" => k_extra "ln 44"
  k_with "S8c getMethod ref" => k_extra "ln 45"
  k_with "S8c getMethod ref" => k_extra "ln 46"
  k_with "S8c getMethod ref" => k_extra "ln 47"
  k_with "S8c call ref" => k_extra "ln 48"
  k_with "S8c getMethod ref" => k_extra "ln 49"
  k_with "S8c getMethod ref" => k_extra "ln 50"
  k_with "S8c callWith ref" => k_extra "ln 51"
  k_with "S8c my_val" => k_extra "ln 52"
  k_with "S8c my_size" => k_extra "ln 53"
  k_with "S8c call builtin:dict.get" => k_extra "ln 54"
  k_with "S8c call builtin:dict.pop" => k_extra "ln 55"
  k_with "S8c subscriptTail" => k_extra "ln 56"
  k_with "S8c subscriptTail Attribute Name Name ref str" => k_extra "ln 56"
  k_with "S8c setItem ref str" => k_extra "ln 57"
  k_with "S8c my_key" => k_extra "ln 60"
  k_with "S8c my_ents" => k_extra "ln 61"
  k_with "S8c my_ent" => k_extra "ln 62"
  k_with "S8c call builtin:len" => k_extra "ln 63"
  k_with "S8c subscriptTail" => k_extra "ln 64"
  k_with "S8c subscriptTail Name Name ref int" => k_extra "ln 64"
  k_with "S8c getAttr ref" => k_extra "ln 65"
  k_with "S8c binaryOp Add ref ref" => k_extra "ln 14"
  k_with "S8c binaryOp Mult ref int" => k_extra "ln 14"
  k_with "S8c setItem ref str" => k_extra "ln 14"
  k_with "S8c call builtin:dict.setdefault" => k_extra "ln 14"
  k_with "S8c noteFrame ref" => k_extra "ln 14"
  k_with "S8c my_size" => k_extra "ln 77"
  k_with "S8c setItem ref str" => k_extra "ln 57"
  k_with "S8c my_val" => k_extra "ln 78"
  k_with "S8c getMethod ref" => k_extra "ln 79"
  k_with "S8c call builtin:dict.setdefault" => k_extra "ln 80"
  k_with "S8c subscriptTail" => k_extra "ln 81"
  k_with "S8c subscriptTail Subscript Attribute Name BinOp ref int" => k_extra "ln 81"
  k_with "S8c binaryOp Mult ref int" => k_extra "ln 82"
  k_with "S8c binaryOp Add ref ref" => k_extra "ln 83"
  k_with "S8c call ref" => k_extra "ln 84"
  k_with "S8c noteFrame ref" => k_extra "ln 85"
  k_with "S8c call ref" => k_extra "ln 86"
  trivial


set_option maxHeartbeats 8000000 in
theorem acq_out (XB : (kd.heap_1 w.params).In base) (TB : Top p loose mean mg mb base) (D : KtsDicts (outer.filterMap (·.frame)) h₀) (B : Below A₀ base outer h₀) (F : Fr h₀ L s.heap m) (X : (kd.heap_1 w.params).In h₀) (N : News h₀ L s.heap news) (T : Top p loose mean mg mb h₀) (hk : cs.kind = .function) (hdp : dp ≤ 930) (hun : un ≤ 9380)
   {z : Z} {oSt oEx oEv oT oN : Obj} {rest : List (Addr × Obj)} {kV : List (Str × Value)} {key : Str} {tk0 tk1 tk2 tk3 : Tok} {now W A c : Int} {evs : List Int}
   (hn : news = (z.st, oSt) :: (z.ex, oEx) :: (z.ev, oEv) :: (653, oT) :: (z.nw, oN) :: rest) (hz : Okz z) (ho : Offz z rest)
   (hS : StoreIn w rest z) (hC : ClockIn ((z.nw, oN) :: rest) z.clk now) (dV : oEv.IsDictOf (strKind prog w) kV) (hlen : kV.length ≤ 1000) (hc : 1 ≤ c) (hA : A ≤ 9) {l : Addr} {vs : List Value} {nn : Nat} (hv : valueAt kV key = some (.ref l)) (hl : (l, listOf vs.toArray nn) ∈ rest) (he : EntsAre w rest vs evs) (hvl : vs.length = evs.length) (hb : evs.length ≤ 1000) (hAc : ¬ A < c) (hin : ¬ A - c < (evs.length : Int))
   (ret : AcqRet p loose mean mg mb A₀ base outer h₀ L m prog w z oSt oEx oEv oT oN rest kV key evs (acqR now W A c evs).1 (acqR now W A c evs).2 s Q) :
   wpAny (model prog w) (ktrTop dp un gd cn cs L a ccd [] outer) (call (.ref 644) [.ref z.self, .str key tk0, .int A tk1, .int W tk2] [(Str.ofString "amount", .int c tk3)]) Q E s := by
  subst hn
  obtain ⟨a1, a2, a3, a4, a5, a6, b1, b2, b3, b4, l1, l2, l3⟩ := hz
  obtain ⟨o1, o2, o3, o4, o5⟩ := id ho
  have hR : acqR now W A c evs = (true, List.replicate c.toNat now ++ evs) := by
    have hnone : evs[(A - c).toNat]? = none := List.getElem?_eq_none (by omega)
    simp [acqR, hAc, hnone]
  rw [hR] at ret
  have h0c : 0 ≤ c := by omega
  have h2c : c ≤ 200 := by omega
  have hfit : A - c < 2 ^ 63 := by omega
  have hao : (evs.length : Int) ≤ A - c := by omega
  have hvs : vs.length ≤ 1000 := by omega
  k_steps
  refine ret _ _ _ _ [_, _, _, _, _, _] _ (by assumption) (by assumption) (fin_led (by assumption)) (by assumption) (by assumption) (by assumption) (by assumption) ?ab (show Obj.IsDictOf _ _ (stored _ _ _) by assumption) ?len (fun _ h0 h1 => ev_new (va_stored _ _ _) (ev_again N (fun _ h => .tail _ (.tail _ (.tail _ (.tail _ (.tail _ h))))) hl hv h0 h1)) ?ne
  case ab =>
    walk_at "my_split"
    exact .cons (above6 (by assumption) (by assumption) (by assumption) (by assumption) (by assumption) (by assumption)) (.cons (above6 (by assumption) (by assumption) (by assumption) (by assumption) (by assumption) (by assumption)) (.cons (above6 (by assumption) (by assumption) (by assumption) (by assumption) (by assumption) (by assumption)) (.cons (above6 (by assumption) (by assumption) (by assumption) (by assumption) (by assumption) (by assumption)) (.cons (above6 (by assumption) (by assumption) (by assumption) (by assumption) (by assumption) (by assumption)) (.cons (above6 (by assumption) (by assumption) (by assumption) (by assumption) (by assumption) (by assumption)) .nil)))))
  case len => exact stored_length_le _ _ _
  case ne =>
    intro k2 hk2
    rw [va_stored_ne _ _ _ _ hk2]
end
end
section
open Lean PySem PySem.Calls PySem.W PyProof.Rows PyProof.V PySem.Spec PyProof.Rows.LCg
local macro_rules | `(tactic| walk_at $s:str) => `(tactic| k_extra $(Lean.Syntax.mkStrLit ("S8d " ++ s.getString)))
section
variable {prog : Program} {w : World} {p : Program} {loose : List Str} {mean : ExcName → Option Value} {mg mb : Str → Option Value} {dp un : Nat} {gd : Option (List Code)} {cn : Str} {cs : Scope} {a : Addr} {ccd : Value} {cl : List (Str × Addr)} {outer : List Env} {A₀ : Around} {base h₀ : Heap} {L : Addr} {m : Str → Option Value} {news : List (Addr × Obj)} {s : Shared} {Q E : Value → Shared → Prop}
theorem ln_S8d_1 : True := by
  try walk1
  k_with "S8d k:k_room" => k_extra "ln 0"
  k_with "S8d k:k_enter" => k_extra "ln 1"
  k_with "S8d my_mem" => k_extra "ln 2"
  k_with "S8d k:k_mem" => k_extra "ln 3"
  k_with "S8d my_split" => k_extra "ln 4"
  k_with "S8d my_ltf" => k_extra "ln 5"
  k_with "S8d k:k_ne" => k_extra "ln 6"
  k_with "S8d my_reord" => k_extra "ln 7"
  k_with "S8d my_all" => k_extra "ln 8"
  k_with "S8d k:k_all" => k_extra "ln 9"
  k_with "S8d call builtin:len" => k_extra "ln 10"
  k_with "S8d subscriptTail" => k_extra "ln 11"
  k_with "S8d subscriptTail Name Name ref int" => k_extra "ln 11"
  k_with "S8d subscriptTail" => k_extra "ln 12"
  k_with "S8d subscriptTail Name Slice ref ref" => k_extra "ln 12"
  k_with "S8d call builtin:sum" => k_extra "ln 13"
  k_with "S8d my_rows" => k_extra "ln 15"
  k_with "S8d my_room" => k_extra "ln 16"
  k_with "S8d my_ctx" => k_extra "ln 17"
  k_with "S8d my_ctx0" => k_extra "ln 18"
  k_with "S8d subscriptTail" => k_extra "ln 76"
  k_with "S8d my_store" => k_extra "ln 38"
  k_with "S8d my_clock" => k_extra "ln 39"
  k_with "S8d getAttr ref" => k_extra "ln 40"
  k_with "S8d getAttr ref" => k_extra "ln 41"
  k_with "S8d getAttr ref" => k_extra "ln 42"
  k_with "S8d getMethod ref" => k_extra "ln 43"
  k_with "S8d getMethod ref" => k_extra "ln 44"
  k_with "S8d getMethod ref" => k_extra "ln 45"
  k_with "S8d getMethod ref" => k_extra "ln 46"
  k_with "S8d getMethod ref" => k_extra "ln 47"
  k_with "S8d call ref" => k_extra "ln 48"
  k_with "S8d getMethod ref" => k_extra "ln 49"
  k_with "S8d getMethod ref" => k_extra "ln 50"
  k_with "S8d callWith ref" => k_extra "ln 51"
  k_with "S8d my_val" => k_extra "ln 52"
  k_with "S8d my_size" => k_extra "ln 53"
  k_with "S8d call builtin:dict.get" => k_extra "ln 54"
  k_with "S8d call builtin:dict.pop" => k_extra "ln 55"
  k_with "S8d subscriptTail" => k_extra "ln 56"
  k_with "S8d subscriptTail Attribute Name Name ref str" => k_extra "ln 56"
  k_with "S8d setItem ref str" => k_extra "ln 57"
  k_with "S8d my_key" => k_extra "ln 60"
  k_with "S8d my_ents" => k_extra "ln 61"
  k_with "S8d my_ent" => k_extra "ln 62"
  k_with "S8d call builtin:len" => k_extra "ln 63"
  k_with "S8d subscriptTail" => k_extra "ln 64"
  k_with "S8d subscriptTail Name Name ref int" => k_extra "ln 64"
  k_with "S8d getAttr ref" => k_extra "ln 65"
  k_with "S8d binaryOp Add ref ref" => k_extra "ln 14"
  k_with "S8d binaryOp Mult ref int" => k_extra "ln 14"
  k_with "S8d setItem ref str" => k_extra "ln 14"
  k_with "S8d call builtin:dict.setdefault" => k_extra "ln 14"
  k_with "S8d noteFrame ref" => k_extra "ln 14"
  k_with "S8d my_size" => k_extra "ln 77"
  k_with "S8d setItem ref str" => k_extra "ln 57"
  k_with "S8d my_val" => k_extra "ln 78"
  k_with "S8d getMethod ref" => k_extra "ln 79"
  k_with "S8d call builtin:dict.setdefault" => k_extra "ln 80"
  k_with "S8d subscriptTail" => k_extra "ln 81"
  k_with "S8d subscriptTail Subscript Attribute Name BinOp ref int" => k_extra "ln 81"
  k_with "S8d binaryOp Mult ref int" => k_extra "ln 82"
  k_with "S8d binaryOp Add ref ref" => k_extra "ln 83"
  k_with "S8d call ref" => k_extra "ln 84"
  k_with "S8d noteFrame ref" => k_extra "ln 85"
  k_with "S8d call ref" => k_extra "ln 86"
  k_with "ln 87" => ((k_here; (with_reducible show wpAny _ _ (subscriptTail _ _ (Value.ref _) (Value.int _ _)) _ _ _); k_dflt (refine' ent_item_at ?z87xN ?z87xm ?z87xr ?z87xt ?z87xa ?z87xb ?_ ?z87xd; (case z87xN => k_asm); (case z87xm => k_mem); (case z87xr => walk_at "my_ents"); (case z87xt => assumption); (case z87xa => omega); (case z87xb => omega); (case z87xd => with_unfolding_all rfl); k_whole); intro a'q hm'q))
  k_with "S8d subscriptTail" => k_extra "ln 87"
  k_with "S8d subscriptTail Subscript Attribute Name BinOp ref int" => k_extra "ln 87"
  trivial

set_option maxHeartbeats 8000000 in
theorem acq_rej (XB : (kd.heap_1 w.params).In base) (TB : Top p loose mean mg mb base) (D : KtsDicts (outer.filterMap (·.frame)) h₀) (B : Below A₀ base outer h₀) (F : Fr h₀ L s.heap m) (X : (kd.heap_1 w.params).In h₀) (N : News h₀ L s.heap news) (T : Top p loose mean mg mb h₀) (hk : cs.kind = .function) (hdp : dp ≤ 930) (hun : un ≤ 9380)
   {z : Z} {oSt oEx oEv oT oN : Obj} {rest : List (Addr × Obj)} {kV : List (Str × Value)} {key : Str} {tk0 tk1 tk2 tk3 : Tok} {now W A c : Int} {evs : List Int}
   (hn : news = (z.st, oSt) :: (z.ex, oEx) :: (z.ev, oEv) :: (653, oT) :: (z.nw, oN) :: rest) (hz : Okz z) (ho : Offz z rest)
   (hS : StoreIn w rest z) (hC : ClockIn ((z.nw, oN) :: rest) z.clk now) (dV : oEv.IsDictOf (strKind prog w) kV) (hlen : kV.length ≤ 1000) (hc : 1 ≤ c) (hA : A ≤ 9) {l : Addr} {vs : List Value} {nn : Nat} {t : Int} (hv : valueAt kV key = some (.ref l)) (hl : (l, listOf vs.toArray nn) ∈ rest) (he : EntsAre w rest vs evs) (hvl : vs.length = evs.length) (hb : evs.length ≤ 1000) (hAc : ¬ A < c) (hin : evs[(A - c).toNat]? = some t) (ht : now - W ≤ t)
   (ret : AcqRet p loose mean mg mb A₀ base outer h₀ L m prog w z oSt oEx oEv oT oN rest kV key evs (acqR now W A c evs).1 (acqR now W A c evs).2 s Q) :
   wpAny (model prog w) (ktrTop dp un gd cn cs L a ccd [] outer) (call (.ref 644) [.ref z.self, .str key tk0, .int A tk1, .int W tk2] [(Str.ofString "amount", .int c tk3)]) Q E s := by
  subst hn
  obtain ⟨a1, a2, a3, a4, a5, a6, b1, b2, b3, b4, l1, l2, l3⟩ := hz
  obtain ⟨o1, o2, o3, o4, o5⟩ := id ho
  have hR : acqR now W A c evs = (false, evs) := by
    simp [acqR, hAc, hin, ht]
  rw [hR] at ret
  have hlt : (A - c).toNat < evs.length := (List.getElem?_eq_some_iff.mp hin).1
  k_steps
  exact ret _ _ _ _ [] _ KtsTurn.refl (by assumption) (cb_drop (by assumption) fun _ h => .tail _ h) (by assumption) (by assumption) (by assumption) (by assumption) Above.nil dV (by omega) (fun _ _ h => h) (fun _ _ => rfl)
end
end
section
open Lean PySem PySem.Calls PySem.W PyProof.Rows PyProof.V PySem.Spec PyProof.Rows.LCg
local macro_rules | `(tactic| walk_at $s:str) => `(tactic| k_extra $(Lean.Syntax.mkStrLit ("S8e " ++ s.getString)))
local macro_rules | `(tactic| walk_at "none") => `(tactic| fail)
section
variable {prog : Program} {w : World} {p : Program} {loose : List Str} {mean : ExcName → Option Value} {mg mb : Str → Option Value} {dp un : Nat} {gd : Option (List Code)} {cn : Str} {cs : Scope} {a : Addr} {ccd : Value} {cl : List (Str × Addr)} {outer : List Env} {A₀ : Around} {base h₀ : Heap} {L : Addr} {m : Str → Option Value} {news : List (Addr × Obj)} {s : Shared} {Q E : Value → Shared → Prop}
theorem ln_S8e_1 : True := by
  try walk1
  k_with "S8e k:k_room" => k_extra "ln 0"
  k_with "S8e k:k_enter" => k_extra "ln 1"
  k_with "S8e my_mem" => k_extra "ln 2"
  k_with "S8e k:k_mem" => k_extra "ln 3"
  k_with "S8e my_split" => k_extra "ln 4"
  k_with "S8e my_ltf" => k_extra "ln 5"
  k_with "S8e k:k_ne" => k_extra "ln 6"
  k_with "S8e my_reord" => k_extra "ln 7"
  k_with "S8e my_all" => k_extra "ln 8"
  k_with "S8e k:k_all" => k_extra "ln 9"
  k_with "S8e call builtin:len" => k_extra "ln 10"
  k_with "S8e subscriptTail" => k_extra "ln 11"
  k_with "S8e subscriptTail Name Name ref int" => k_extra "ln 11"
  k_with "S8e subscriptTail" => k_extra "ln 12"
  k_with "S8e subscriptTail Name Slice ref ref" => k_extra "ln 12"
  k_with "S8e call builtin:sum" => k_extra "ln 13"
  k_with "S8e my_rows" => k_extra "ln 15"
  k_with "S8e my_room" => k_extra "ln 16"
  k_with "S8e my_ctx" => k_extra "ln 17"
  k_with "S8e my_ctx0" => k_extra "ln 18"
  k_with "S8e subscriptTail" => k_extra "ln 76"
  k_with "S8e my_store" => k_extra "ln 38"
  k_with "S8e my_clock" => k_extra "ln 39"
  k_with "S8e getAttr ref" => k_extra "ln 40"
  k_with "S8e getAttr ref" => k_extra "ln 41"
  k_with "S8e getAttr ref" => k_extra "ln 42"
  k_with "S8e getMethod ref" => k_extra "ln 43"
  k_with "S8e getMethod ref" => k_extra "ln 44"
  k_with "S8e getMethod ref" => k_extra "ln 45"
  k_with "S8e getMethod ref" => k_extra "ln 46"
  k_with "S8e getMethod ref" => k_extra "ln 47"
  k_with "S8e call ref" => k_extra "ln 48"
  k_with "S8e getMethod ref" => k_extra "ln 49"
  k_with "S8e getMethod ref" => k_extra "ln 50"
  k_with "S8e callWith ref" => k_extra "ln 51"
  k_with "S8e my_val" => k_extra "ln 52"
  k_with "S8e my_size" => k_extra "ln 53"
  k_with "S8e call builtin:dict.get" => k_extra "ln 54"
  k_with "S8e call builtin:dict.pop" => k_extra "ln 55"
  k_with "S8e subscriptTail" => k_extra "ln 56"
  k_with "S8e subscriptTail Attribute Name Name ref str" => k_extra "ln 56"
  k_with "S8e setItem ref str" => k_extra "ln 57"
  k_with "S8e my_key" => k_extra "ln 60"
  k_with "S8e my_ents" => k_extra "ln 61"
  k_with "S8e my_ent" => k_extra "ln 62"
  k_with "S8e call builtin:len" => k_extra "ln 63"
  k_with "S8e subscriptTail" => k_extra "ln 64"
  k_with "S8e subscriptTail Name Name ref int" => k_extra "ln 64"
  k_with "S8e getAttr ref" => k_extra "ln 65"
  k_with "S8e binaryOp Add ref ref" => k_extra "ln 14"
  k_with "S8e binaryOp Mult ref int" => k_extra "ln 14"
  k_with "S8e setItem ref str" => k_extra "ln 14"
  k_with "S8e call builtin:dict.setdefault" => k_extra "ln 14"
  k_with "S8e noteFrame ref" => k_extra "ln 14"
  k_with "S8e my_size" => k_extra "ln 77"
  k_with "S8e setItem ref str" => k_extra "ln 57"
  k_with "S8e my_val" => k_extra "ln 78"
  k_with "S8e getMethod ref" => k_extra "ln 79"
  k_with "S8e call builtin:dict.setdefault" => k_extra "ln 80"
  k_with "S8e subscriptTail" => k_extra "ln 81"
  k_with "S8e subscriptTail Subscript Attribute Name BinOp ref int" => k_extra "ln 81"
  k_with "S8e binaryOp Mult ref int" => k_extra "ln 82"
  k_with "S8e binaryOp Add ref ref" => k_extra "ln 83"
  k_with "S8e call ref" => k_extra "ln 84"
  k_with "S8e noteFrame ref" => k_extra "ln 85"
  k_with "S8e call ref" => k_extra "ln 86"
  k_with "S8e subscriptTail" => k_extra "ln 87"
  k_with "S8e subscriptTail Subscript Attribute Name BinOp ref int" => k_extra "ln 87"
  trivial

set_option maxHeartbeats 8000000 in
theorem acq_acc (XB : (kd.heap_1 w.params).In base) (TB : Top p loose mean mg mb base) (D : KtsDicts (outer.filterMap (·.frame)) h₀) (B : Below A₀ base outer h₀) (F : Fr h₀ L s.heap m) (X : (kd.heap_1 w.params).In h₀) (N : News h₀ L s.heap news) (T : Top p loose mean mg mb h₀) (hk : cs.kind = .function) (hdp : dp ≤ 930) (hun : un ≤ 9380)
   {z : Z} {oSt oEx oEv oT oN : Obj} {rest : List (Addr × Obj)} {kV : List (Str × Value)} {key : Str} {tk0 tk1 tk2 tk3 : Tok} {now W A c : Int} {evs : List Int}
   (hn : news = (z.st, oSt) :: (z.ex, oEx) :: (z.ev, oEv) :: (653, oT) :: (z.nw, oN) :: rest) (hz : Okz z) (ho : Offz z rest)
   (hS : StoreIn w rest z) (hC : ClockIn ((z.nw, oN) :: rest) z.clk now) (dV : oEv.IsDictOf (strKind prog w) kV) (hlen : kV.length ≤ 1000) (hc : 1 ≤ c) (hA : A ≤ 9) {l : Addr} {vs : List Value} {nn : Nat} {t : Int} (hv : valueAt kV key = some (.ref l)) (hl : (l, listOf vs.toArray nn) ∈ rest) (he : EntsAre w rest vs evs) (hvl : vs.length = evs.length) (hb : evs.length ≤ 1000) (hAc : ¬ A < c) (hin : evs[(A - c).toNat]? = some t) (ht : ¬ now - W ≤ t)
   (ret : AcqRet p loose mean mg mb A₀ base outer h₀ L m prog w z oSt oEx oEv oT oN rest kV key evs (acqR now W A c evs).1 (acqR now W A c evs).2 s Q) :
   wpAny (model prog w) (ktrTop dp un gd cn cs L a ccd [] outer) (call (.ref 644) [.ref z.self, .str key tk0, .int A tk1, .int W tk2] [(Str.ofString "amount", .int c tk3)]) Q E s := by
  subst hn
  obtain ⟨a1, a2, a3, a4, a5, a6, b1, b2, b3, b4, l1, l2, l3⟩ := hz
  obtain ⟨o1, o2, o3, o4, o5⟩ := id ho
  have hR : acqR now W A c evs = (true, List.replicate c.toNat now ++ evs) := by
    simp [acqR, hAc, hin, ht]
  rw [hR] at ret
  have hlt : (A - c).toNat < evs.length := (List.getElem?_eq_some_iff.mp hin).1
  have h0c : 0 ≤ c := by omega
  have h2c : c ≤ 200 := by omega
  have hfit : A - c < 2 ^ 63 := by omega
  have hvs : vs.length ≤ 1000 := by omega
  k_steps
  refine ret _ _ _ _ [_, _, _, _, _, _] _ KtsTurn.refl (by assumption) (fin_led (by assumption)) (by assumption) (by assumption) (by assumption) (by assumption) ?ab (show Obj.IsDictOf _ _ (stored _ _ _) by assumption) ?len (fun _ h0 h1 => ev_new (va_stored _ _ _) (ev_again N (fun _ h => .tail _ (.tail _ (.tail _ (.tail _ (.tail _ h))))) hl hv h0 h1)) ?ne
  case ab =>
    walk_at "my_split"
    exact .cons (above6 (by assumption) (by assumption) (by assumption) (by assumption) (by assumption) (by assumption)) (.cons (above6 (by assumption) (by assumption) (by assumption) (by assumption) (by assumption) (by assumption)) (.cons (above6 (by assumption) (by assumption) (by assumption) (by assumption) (by assumption) (by assumption)) (.cons (above6 (by assumption) (by assumption) (by assumption) (by assumption) (by assumption) (by assumption)) (.cons (above6 (by assumption) (by assumption) (by assumption) (by assumption) (by assumption) (by assumption)) (.cons (above6 (by assumption) (by assumption) (by assumption) (by assumption) (by assumption) (by assumption)) .nil)))))
  case len => exact stored_length_le _ _ _
  case ne =>
    intro k2 hk2
    rw [va_stored_ne _ _ _ _ hk2]
end
end
section
open Lean PySem PySem.Calls PySem.W PyProof.Rows PyProof.V PySem.Spec PyProof.Rows.LCg
local macro_rules | `(tactic| walk_at $s:str) => `(tactic| k_extra $(Lean.Syntax.mkStrLit ("S8 " ++ s.getString)))
section
variable {prog : Program} {w : World} {p : Program} {loose : List Str} {mean : ExcName → Option Value} {mg mb : Str → Option Value} {dp un : Nat} {gd : Option (List Code)} {cn : Str} {cs : Scope} {a : Addr} {ccd : Value} {cl : List (Str × Addr)} {outer : List Env} {A₀ : Around} {base h₀ : Heap} {L : Addr} {m : Str → Option Value} {news : List (Addr × Obj)} {s : Shared} {Q E : Value → Shared → Prop}
theorem ln_S8_1 : True := by
  try walk1
  k_with "S8 k:k_room" => k_extra "ln 0"
  k_with "S8 k:k_enter" => k_extra "ln 1"
  k_with "S8 my_mem" => k_extra "ln 2"
  k_with "S8 k:k_mem" => k_extra "ln 3"
  k_with "S8 my_split" => k_extra "ln 4"
  k_with "S8 my_ltf" => k_extra "ln 5"
  k_with "S8 k:k_ne" => k_extra "ln 6"
  k_with "S8 my_reord" => k_extra "ln 7"
  k_with "S8 my_all" => k_extra "ln 8"
  k_with "S8 k:k_all" => k_extra "ln 9"
  k_with "S8 call builtin:len" => k_extra "ln 10"
  k_with "S8 subscriptTail" => k_extra "ln 11"
  k_with "S8 subscriptTail Name Name ref int" => k_extra "ln 11"
  k_with "S8 subscriptTail" => k_extra "ln 12"
  k_with "S8 subscriptTail Name Slice ref ref" => k_extra "ln 12"
  k_with "S8 call builtin:sum" => k_extra "ln 13"
  trivial


theorem acq_ok (XB : (kd.heap_1 w.params).In base) (TB : Top p loose mean mg mb base) (D : KtsDicts (outer.filterMap (·.frame)) h₀) (B : Below A₀ base outer h₀) (F : Fr h₀ L s.heap m) (X : (kd.heap_1 w.params).In h₀) (N : News h₀ L s.heap news) (T : Top p loose mean mg mb h₀) (hk : cs.kind = .function) (hdp : dp ≤ 930) (hun : un ≤ 9380)
   {z : Z} {oSt oEx oEv oT oN : Obj} {rest : List (Addr × Obj)} {kV : List (Str × Value)} {key : Str} {tk0 tk1 tk2 tk3 : Tok} {now W A c : Int} {evs : List Int}
   (hn : news = (z.st, oSt) :: (z.ex, oEx) :: (z.ev, oEv) :: (653, oT) :: (z.nw, oN) :: rest) (hz : Okz z) (ho : Offz z rest)
   (hS : StoreIn w rest z) (hC : ClockIn ((z.nw, oN) :: rest) z.clk now) (dV : oEv.IsDictOf (strKind prog w) kV) (hlen : kV.length ≤ 1000) (hc : 1 ≤ c) (hA : A ≤ 9) (hv : EvAt w rest kV key evs) (hb : evs.length ≤ 1000)
   (ret : AcqRet p loose mean mg mb A₀ base outer h₀ L m prog w z oSt oEx oEv oT oN rest kV key evs (acqR now W A c evs).1 (acqR now W A c evs).2 s Q) :
   wpAny (model prog w) (ktrTop dp un gd cn cs L a ccd [] outer) (call (.ref 644) [.ref z.self, .str key tk0, .int A tk1, .int W tk2] [(Str.ofString "amount", .int c tk3)]) Q E s := by
  by_cases hAc : A < c
  · exact acq_big XB TB D B F X N T hk hdp hun hn hz ho hS hC dV hlen hc hA hv hAc ret
  rcases hv with ⟨hv, rfl⟩ | ⟨l, vs, nn, hv, hl, he⟩
  · exact acq_new XB TB D B F X N T hk hdp hun hn hz ho hS hC dV hlen hc hA hv hAc rfl ret
  · have hvl := he.length
    cases hin : evs[(A - c).toNat]? with
    | none =>
      have : evs.length ≤ (A - c).toNat := List.getElem?_eq_none_iff.mp hin
      exact acq_out XB TB D B F X N T hk hdp hun hn hz ho hS hC dV hlen hc hA hv hl he hvl hb hAc (by omega) ret
    | some t =>
      by_cases ht : now - W ≤ t
      · exact acq_rej XB TB D B F X N T hk hdp hun hn hz ho hS hC dV hlen hc hA hv hl he hvl hb hAc hin ht ret
      · exact acq_acc XB TB D B F X N T hk hdp hun hn hz ho hS hC dV hlen hc hA hv hl he hvl hb hAc hin ht ret
end
end
section
open Lean PySem PySem.Calls PySem.W PyProof.Rows PyProof.V PySem.Spec PyProof.Rows.LCg
local macro_rules | `(tactic| walk_at $s:str) => `(tactic| k_extra $(Lean.Syntax.mkStrLit ("X4 " ++ s.getString)))
local macro_rules | `(tactic| walk_at "none") => `(tactic| fail)
section
variable {prog : Program} {w : World} {p : Program} {loose : List Str} {mean : ExcName → Option Value} {mg mb : Str → Option Value} {dp un : Nat} {gd : Option (List Code)} {cn : Str} {cs : Scope} {a : Addr} {ccd : Value} {cl : List (Str × Addr)} {outer : List Env} {A₀ : Around} {base h₀ : Heap} {L : Addr} {m : Str → Option Value} {news : List (Addr × Obj)} {s : Shared} {Q E : Value → Shared → Prop}
theorem ln_X4_1 : True := by
  try walk1
  k_with "X4 k:k_room" => k_extra "ln 0"
  k_with "X4 k:k_enter" => k_extra "ln 1"
  k_with "X4 my_mem" => k_extra "ln 2"
  k_with "X4 k:k_mem" => k_extra "ln 3"
  k_with "X4 my_split" => k_extra "ln 4"
  k_with "X4 my_ltf" => k_extra "ln 5"
  k_with "X4 k:k_ne" => k_extra "ln 6"
  k_with "X4 my_reord" => k_extra "ln 7"
  k_with "X4 my_all" => k_extra "ln 8"
  k_with "X4 k:k_all" => k_extra "ln 9"
  k_with "X4 call builtin:len" => k_extra "ln 10"
  k_with "X4 subscriptTail" => k_extra "ln 11"
  k_with "X4 subscriptTail Name Name ref int" => k_extra "ln 11"
  k_with "X4 subscriptTail" => k_extra "ln 12"
  k_with "X4 subscriptTail Name Slice ref ref" => k_extra "ln 12"
  k_with "X4 call builtin:sum" => k_extra "ln 13"
  trivial


section
variable {A : Around} {h : Heap} {R : Result → Shared → Prop}
theorem ws_made (X : (kd.heap_1 w.params).In h) : Looks (model prog w) h (Bind.madeBy (.ref 132)) none := Looks.of_peek X (by kernel_rfl)
theorem ws_here (X : (kd.heap_1 w.params).In h) : Looks (model prog w) h (Bind.madeHere "tuple.__new__" (.ref 132)) () := Looks.of_peek X (by kernel_rfl)
theorem ws_isType (X : (kd.heap_1 w.params).In h) : Looks (model prog w) h (isType (.ref 132)) true := Looks.of_peek X (by kernel_rfl)
theorem ws_sub (X : (kd.heap_1 w.params).In h) : Looks (model prog w) h (isSubtype (.ref 132) (.type "tuple")) true := Looks.of_peek X (by kernel_rfl)
theorem ws_init (X : (kd.heap_1 w.params).In h) : Looks (model prog w) h (typeLookup (.ref 132) "__init__") (some (.builtin "object.__init__")) := Looks.of_peek X (by kernel_rfl)
theorem ws_check (X : (kd.heap_1 w.params).In h) (t : Addr) : Looks (model prog w) h (checkBuiltinCall "tuple.__new__" ⟨[.ref 132, .ref t], []⟩) () := Looks.of_peek X (by kernel_rfl)
theorem ws_mro (X : (kd.heap_1 w.params).In h) : Looks (model prog w) h (mroOf (.ref 132)) [.ref 132, .type "tuple", .type "object"] := Looks.of_peek X (by kernel_rfl)
theorem ws_call (X : (kd.heap_1 w.params).In h) : Looks (model prog w) h (specialOf (.ref 132) "__call__") (some (.builtin "type.__call__")) := Looks.of_peek X (by kernel_rfl)
theorem ws_typ (X : (kd.heap_1 w.params).In h) : Looks (model prog w) h (isInstance (.ref 132) (.type "type")) true := Looks.of_peek X (by kernel_rfl)
theorem ws_self (X : (kd.heap_1 w.params).In h) : Looks (model prog w) h (isSubtype (.ref 132) (.ref 132)) true := Looks.of_peek X (by kernel_rfl)
theorem ws_otop (X : (kd.heap_1 w.params).In h) : Looks (model prog w) h (isSubtype (.ref 132) (.type "object")) true := Looks.of_peek X (by kernel_rfl)
theorem ws_obj (X : (kd.heap_1 w.params).In h) : ∃ oc od cd sl, h.get? 132 = some ⟨oc, od, .cls cd, sl⟩ ∧ cd.hasDel = false := ⟨_, _, _, _, X _ _ (by k_is), rfl⟩
abbrev wsObj (its : Array Value) (d : Addr) (n : Nat) : Obj := { cls := .ref 132, dict := some d, data := .seq its n }
theorem Heap.keeps_push {h h' : Heap} {o : Obj} (k : ∀ b o, h.get? b = some o → h'.get? b = some o) : ∀ b o', h.get? b = some o' → (h'.push o).get? b = some o' := fun b o' e => Heap.get?_push_of_some _ (k b o' e)
theorem ws_tnew (F : Fr h₀ L s.heap m) (N : News h₀ L s.heap news) (X₀ : (kd.heap_1 w.params).In h₀) {t : Addr} {its : Array Value} {n : Nat} {Q : Value → Shared → Prop}
    (ht : (t, ({ cls := .type "tuple", data := .seq its n } : Obj)) ∈ news) (hz : its.size ≤ sizeLine)
    (hq : ∀ h' x d, Fr h₀ L h' m → News h₀ L h' ((x, wsObj its d 0) :: (d, emptyDict) :: news) → (∀ p ∈ news, p.1 < d) → d < x → Q (.ref x) { s with heap := h' }) :
    wpAny (model prog w) A (call (.builtin "tuple.__new__") [.ref 132, .ref t]) Q E s := by
  have X := X₀.keeps F.keep
  obtain ⟨oc, od, cd, sl, hC, hdel⟩ := ws_obj X
  obtain ⟨hp, g, d, tk, os⟩ := s
  have f1 := ws_isType (prog := prog) (w := w) X
  have f2 := ws_sub (prog := prog) (w := w) X
  have f3 := ws_here (prog := prog) (w := w) X
  have f4 := ws_init (prog := prog) (w := w) X
  refine wpAny_call ?_
  refine codeAny_call_builtin_code (Code.quiet_builtin _ (by decide +kernel)) ?_
  refine (ws_check X t).at ?_
  refine codeAny_builtin PySem.F.entry_tuple_new ?_
  unfold Builtin.«tuple.__new__»
  have ht' := (N _ ht).1
  repeat (first | with_reducible refine wpAny_collect_seq (hsz := hz) t (.inr rfl) ht' rfl rfl ?_ | lk)
  intro h' hk
  have FK : Fr h₀ L h' m := F.keeps hk
  have NK : News h₀ L h' news := N.grown hk
  have N₂ := (NK.push FK emptyDict).push (FK.push _) (wsObj its h'.objs.size 0)
  have F₂ := (FK.push emptyDict).push (wsObj its h'.objs.size 0)
  have hC₂ := Heap.get?_push_of_some (wsObj its h'.objs.size 0) (Heap.get?_push_of_some emptyDict (hk _ _ hC))
  rw [Heap.size_push] at N₂
  have e : its.toList.toArray = its := by simp
  refine wpAny_bind (wpAny_pure ?_)
  refine wpAny_bind (wpAny_alloc ?_)
  unfold newObj
  dsimp only
  rw [e]
  rw [if_neg (by omega)]
  show wpAny _ _ (newObjAsIs _ _ _ >>= _) _ _ _
  unfold newObjAsIs classHasDel
  refine wpAny_bind (wpAny_bind (wpAny_alloc (wpAny_bind (wpAny_bind (wpAny_load hC₂ (wpAny_pure ?_))))))
  rw [hdel]
  refine wpAny_pure (wpAny_pure ?_)
  have := hq _ (h'.objs.size + 1) h'.objs.size F₂ N₂ (fun p hp => Heap.lt_size (NK p hp).1) (Nat.lt_succ_self _)
  rw [← Heap.size_push (o := emptyDict)] at this
  exact this
/-- what the class's own maker gave -/
def NewBack (w : World) (R : Result → Shared → Prop) (r : Result) (s' : Shared) : Prop := match r with
  | .ok (.ret v) => ∃ x its d n, v = .ref x ∧ s'.heap.get? x = some (wsObj its d n) ∧ (kd.heap_1 w.params).In s'.heap ∧ R (.ok (.ret (.ref x))) s'
  | .ok _ => False
  | .error e => R (.error e) s'
theorem ws_getnew {Q : Value → Shared → Prop} {expr : Bool} (X : (kd.heap_1 w.params).In s.heap) (h : Q (.ref 82) { s with toks := s.toks + 1 }) : wpAny (model prog w) A (getAttr (.ref 132) (Str.ofString "__new__") expr) Q E s :=
  cls_bind (mc := .type "type") (g := .builtin "staticmethod.__get__") (a := .ref 133) (obj := .none) (tp := .ref 132) X (by kernel_rfl) (by kernel_rfl) (wpAny_call (sm_get (s := { s with toks := s.toks + 1 }) (p := 133) (f := .ref 82) (rest := []) X (by kernel_rfl) (handed_on rfl h)))
theorem ws_oinit {x : Addr} {its : Array Value} {d : Addr} {n : Nat} {v1 v2 : Value} {Q : Value → Shared → Prop} (X : (kd.heap_1 w.params).In s.heap) (hx : s.heap.get? x = some (wsObj its d n)) (h : Q .none s) {as : List Value} (ha : as = [.ref x, v1, v2]) :
    wpAny (model prog w) A (call (.builtin "object.__init__") as) Q E s := by
  subst ha
  obtain ⟨hp, g, dr, tk, os⟩ := s
  have t1 : Looks (model prog w) hp (typeOf (.ref x)) (.ref 132) := (Looks.ld hx).andThen .now
  have t2 : Looks (model prog w) hp (isInstance (.ref x) (.type "object")) true := t1.andThen (ws_otop X)
  have t3 := ws_init (prog := prog) (w := w) X
  have t4 := ws_made (prog := prog) (w := w) X
  refine wpAny_call ?_
  refine codeAny_call_builtin oi_plain entry_oi (@check_slot (model prog w) _ _ _ "object.__init__" "object" "__init__" (.ref x) [v1, v2] [] _ oi_kind oi_split t2 (by unfold argsOk; kernel_rfl) ?_)
  unfold Builtin.«object.__init__»
  repeat lk
  exact h
theorem ws_special {x : Addr} {its : Array Value} {d : Addr} {n : Nat} {v1 v2 : Value} {Q : Option Value → Shared → Prop} (X : (kd.heap_1 w.params).In s.heap) (hx : s.heap.get? x = some (wsObj its d n)) (h : Q (some .none) s) :
    wpAny (model prog w) A (callSpecial? (.ref x) "__init__" [v1, v2] []) Q E s := by
  obtain ⟨hp, g, dr, tk, os⟩ := s
  have t1 : Looks (model prog w) hp (typeOf (.ref x)) (.ref 132) := (Looks.ld hx).andThen .now
  have t3 : Looks (model prog w) hp (specialOf (.ref x) "__init__") (some (.builtin "object.__init__")) := t1.andThen (ws_init X)
  have t4 : Looks (model prog w) hp (bindSpecial (.builtin "object.__init__") (.ref x)) (.builtin "object.__init__", [.ref x]) := Looks.of_pure (oi_bind (.ref x))
  unfold callSpecial?
  refine wpAny_bind (t3.at ?_)
  dsimp only
  refine wpAny_holding ?_
  refine wpAny_bind (t4.at ?_)
  refine wpAny_bind (ws_oinit (v1 := v1) (v2 := v2) X hx ?_ (by rfl))
  exact wpAny_pure h
theorem ws_make {v1 v2 : Value} (X : (kd.heap_1 w.params).In s.heap)
    (hq : codeAny (model prog w) (A.under (.builtin "type.__call__" ⟨[.ref 132, v1, v2], []⟩)) (.call (.ref 82) ⟨[.ref 132, v1, v2], []⟩) (NewBack w R) { s with toks := s.toks + 1 }) :
    codeAny (model prog w) A (.call (.ref 132) ⟨[v1, v2], []⟩) R s := by
  obtain ⟨oc, od, cd, sl, hC, hdel⟩ := ws_obj X
  obtain ⟨hp, g, d, tk, os⟩ := s
  have f1 := ws_mro (prog := prog) (w := w) X
  have f2 := ws_made (prog := prog) (w := w) X
  have typ := ws_typ (prog := prog) (w := w) X
  refine codeAny_of_tree ?_
  show wpAny _ _ (callAny (.ref 132) _) _ _ _
  refine nd_load hC ?_
  show wpAny _ _ (callAny.viaDunder (.ref 132) _) _ _ _
  unfold callAny.viaDunder
  refine wpAny_bind ((ws_call X).at ?_)
  dsimp only
  rw [tc_bind]
  refine wpAny_bind (wpAny_pure (wpAny_bind (wpAny_pure ?_)))
  refine wpAny_pure (a := Fin.again (.call (.builtin "type.__call__") ⟨[.ref 132, v1, v2], []⟩)) (And.intro rfl ?_)
  refine codeAny_call_builtin_at (Code.quiet_builtin _ (by decide +kernel)) entry_typeCall (check_slot tc_kind tc_split typ (tc_args _ _ _) ?_)
  unfold Builtin.«type.__call__»
  repeat (first | with_reducible refine ws_getnew X ?_ | with_reducible refine wpAny_call ?_ | lk)
  refine codeAny_mono hq fun r s' z => ?_
  rcases r with e | (v | _ | _ | _) <;> first | exact z | exact z.elim | skip
  obtain ⟨x, its, dd, n, rfl, hx, X', z⟩ := z
  obtain ⟨hp', g', d', tk', os'⟩ := s'
  have t1 : Looks (model prog w) hp' (typeOf (.ref x)) (.ref 132) := (Looks.ld hx).andThen .now
  have t2 := ws_self (prog := prog) (w := w) X'
  have t3 := ws_init (prog := prog) (w := w) X'
  unfold isInstance
  repeat (first | with_reducible refine ws_special X' hx ?_ | lk)
  exact z
end
end
end
section
open Lean PySem PySem.Calls PySem.W PyProof.Rows PyProof.V PySem.Spec PyProof.Rows.LCg
local macro_rules | `(tactic| walk_at $s:str) => `(tactic| k_extra $(Lean.Syntax.mkStrLit ("W1 " ++ s.getString)))
section
variable {prog : Program} {w : World} {p : Program} {loose : List Str} {mean : ExcName → Option Value} {mg mb : Str → Option Value} {dp un : Nat} {gd : Option (List Code)} {cn : Str} {cs : Scope} {a : Addr} {ccd : Value} {cl : List (Str × Addr)} {outer : List Env} {A₀ : Around} {base h₀ : Heap} {L : Addr} {m : Str → Option Value} {news : List (Addr × Obj)} {s : Shared} {Q E : Value → Shared → Prop}
theorem ln_W1_1 : True := by
  try walk1
  k_with "W1 k:k_room" => k_extra "ln 0"
  k_with "W1 k:k_enter" => k_extra "ln 1"
  k_with "W1 my_mem" => k_extra "ln 2"
  k_with "W1 k:k_mem" => k_extra "ln 3"
  k_with "W1 my_split" => k_extra "ln 4"
  k_with "W1 my_ltf" => k_extra "ln 5"
  k_with "W1 k:k_ne" => k_extra "ln 6"
  k_with "W1 my_reord" => k_extra "ln 7"
  k_with "W1 my_all" => k_extra "ln 8"
  k_with "W1 k:k_all" => k_extra "ln 9"
  k_with "W1 call builtin:len" => k_extra "ln 10"
  k_with "W1 subscriptTail" => k_extra "ln 11"
  k_with "W1 subscriptTail Name Name ref int" => k_extra "ln 11"
  k_with "W1 subscriptTail" => k_extra "ln 12"
  k_with "W1 subscriptTail Name Slice ref ref" => k_extra "ln 12"
  k_with "W1 call builtin:sum" => k_extra "ln 13"
  k_with "W1 my_rows" => k_extra "ln 15"
  k_with "W1 my_room" => k_extra "ln 16"
  k_with "W1 my_ctx" => k_extra "ln 17"
  k_with "W1 my_ctx0" => k_extra "ln 18"
  k_with "W1 my_obj" => k_extra "ln 22"
  k_with "W1 call type:type" => k_extra "ln 23"
  k_with "W1 call builtin:issubclass" => k_extra "ln 24"
  k_with "W1 call builtin:tuple.__getitem__" => k_extra "ln 25"
  k_with "W1 getMethod type:tuple" => k_extra "ln 26"
  trivial

def WsEnd (h₀ : Heap) (L : Addr) (m : Str → Option Value) (news : List (Addr × Obj)) (x y : Int) (t1 t2 : Tok) (Q : Value → Shared → Prop) (s : Shared) : Prop :=
  ∀ h' tk' r d, Fr h₀ L h' m → News h₀ L h' ((r, wsObj #[.int x t1, .int y t2] d 0) :: (d, emptyDict) :: news) → Q (.ref r) { s with heap := h', toks := tk' }
theorem ln_W1_2 : True := by
  k_with "ln 88" => ((k_here; k_dflt (refine' ws_tnew ?z88xF ?z88xN ?z88xX ?z88xt ?z88xz ?_; (case z88xF => k_asm); (case z88xN => k_asm); (case z88xX => k_asm); (case z88xt => k_mem); (case z88xz => (show _ ≤ sizeLine; rw [sizeLine_eq]; exact Nat.le_of_ble_eq_true (by with_unfolding_all rfl))); k_whole); intro h'q x'q d'q F'q N'q l1 l2; (try k_lt l1)))
  k_with "W1 call builtin:tuple.__new__" => k_extra "ln 88"
  trivial

set_option maxHeartbeats 4000000 in
theorem ws_new_ok (B : Below A₀ base outer h₀) (F : Fr h₀ L s.heap m) (X : (kd.heap_1 w.params).In h₀) (N : News h₀ L s.heap news) (T : Top p loose mean mg mb h₀) (hk : cs.kind = .function) (hdp : dp ≤ 950) (hun : un ≤ 9500) {x y : Int} {t1 t2 : Tok}
   (ret : WsEnd h₀ L m news x y t1 t2 Q s) :
   wpAny (model prog w) (ktrTop dp un gd cn cs L a ccd cl outer) (call (.ref 132) [.int x t1, .int y t2]) Q E s := by
  refine wpAny_call ?_
  refine ws_make (X.keeps F.keep) ?_
  k_dflt k_enter
  k_steps
  rename News h₀ _ _ _ => kN
  rename Fr h₀ _ _ _ => kF
  refine ⟨_, _, _, _, rfl, (kN _ (.head _)).1, X.keeps kF.keep, ?_⟩
  exact ret _ _ _ _ kF (cb_drop kN fun p hp => by
    rcases List.mem_cons.mp hp with rfl | hp
    · exact .head _
    rcases List.mem_cons.mp hp with rfl | hp
    · exact .tail _ (.head _)
    · exact .tail _ (.tail _ (.tail _ hp)))
end
end
section
open Lean PySem PySem.Calls PySem.W PyProof.Rows PyProof.V PySem.Spec PyProof.Rows.LCg
local macro_rules | `(tactic| walk_at $s:str) => `(tactic| k_extra $(Lean.Syntax.mkStrLit ("G1 " ++ s.getString)))
local macro_rules | `(tactic| walk_at "none") => `(tactic| fail)
section
variable {prog : Program} {w : World} {p : Program} {loose : List Str} {mean : ExcName → Option Value} {mg mb : Str → Option Value} {dp un : Nat} {gd : Option (List Code)} {cn : Str} {cs : Scope} {a : Addr} {ccd : Value} {cl : List (Str × Addr)} {outer : List Env} {A₀ : Around} {base h₀ : Heap} {L : Addr} {m : Str → Option Value} {news : List (Addr × Obj)} {s : Shared} {Q E : Value → Shared → Prop}
theorem ln_G1_1 : True := by
  try walk1
  k_with "G1 k:k_room" => k_extra "ln 0"
  k_with "G1 k:k_enter" => k_extra "ln 1"
  k_with "G1 my_mem" => k_extra "ln 2"
  k_with "G1 k:k_mem" => k_extra "ln 3"
  k_with "G1 my_split" => k_extra "ln 4"
  k_with "G1 my_ltf" => k_extra "ln 5"
  k_with "G1 k:k_ne" => k_extra "ln 6"
  k_with "G1 my_reord" => k_extra "ln 7"
  k_with "G1 my_all" => k_extra "ln 8"
  k_with "G1 k:k_all" => k_extra "ln 9"
  k_with "G1 call builtin:len" => k_extra "ln 10"
  k_with "G1 subscriptTail" => k_extra "ln 11"
  k_with "G1 subscriptTail Name Name ref int" => k_extra "ln 11"
  k_with "G1 subscriptTail" => k_extra "ln 12"
  k_with "G1 subscriptTail Name Slice ref ref" => k_extra "ln 12"
  k_with "G1 call builtin:sum" => k_extra "ln 13"
  k_with "G1 my_rows" => k_extra "ln 15"
  k_with "G1 my_room" => k_extra "ln 16"
  k_with "G1 my_ctx" => k_extra "ln 17"
  k_with "G1 my_ctx0" => k_extra "ln 18"
  k_with "G1 my_store" => k_extra "ln 38"
  k_with "G1 my_clock" => k_extra "ln 39"
  k_with "G1 getAttr ref" => k_extra "ln 40"
  k_with "G1 getAttr ref" => k_extra "ln 41"
  k_with "G1 getAttr ref" => k_extra "ln 42"
  k_with "G1 getMethod ref" => k_extra "ln 43"
  k_with "G1 getMethod ref" => k_extra "ln 44"
  k_with "G1 getMethod ref" => k_extra "ln 45"
  k_with "G1 getMethod ref" => k_extra "ln 46"
  k_with "G1 getMethod ref" => k_extra "ln 47"
  k_with "G1 call ref" => k_extra "ln 48"
  k_with "G1 getMethod ref" => k_extra "ln 49"
  k_with "G1 getMethod ref" => k_extra "ln 50"
  k_with "G1 callWith ref" => k_extra "ln 51"
  k_with "G1 my_val" => k_extra "ln 52"
  k_with "G1 my_size" => k_extra "ln 53"
  k_with "G1 call builtin:dict.get" => k_extra "ln 54"
  k_with "G1 call builtin:dict.pop" => k_extra "ln 55"
  k_with "G1 subscriptTail" => k_extra "ln 56"
  k_with "G1 subscriptTail Attribute Name Name ref str" => k_extra "ln 56"
  k_with "G1 setItem ref str" => k_extra "ln 57"
  trivial

theorem mem_sub {r r' : List (Addr × Obj)} {q : Addr × Obj} (h : ∀ p ∈ r, p ∈ r') (k : q ∈ r) : q ∈ r' := h q k
/-- a limiter over the store -/
def LimIn (w : World) (rest : List (Addr × Obj)) (z : Z) (C g : Addr) : Prop :=
  ∃ d ka, (g, instObj C d) ∈ rest ∧ (d, dictOf [ent w "storage" ka (.ref z.self)] 1) ∈ rest
theorem LimIn.mono {w : World} {n n' : List (Addr × Obj)} {z : Z} {C g : Addr} (h : LimIn w n z C g) (hs : ∀ p ∈ n, p ∈ n') : LimIn w n' z C g :=
  let ⟨d, ka, h1, h2⟩ := h; ⟨d, ka, hs _ h1, hs _ h2⟩
theorem lim_storage_m (F : Fr h₀ L s.heap m) (X : (kd.heap_1 w.params).In h₀) (N : News h₀ L s.heap news) {A : Around} {z : Z} {g : Addr} {expr : Bool} (hi : LimIn w news z 202 g) (h : ∀ t, Q (.ref z.self) { s with toks := t }) :
    wpAny (model prog w) A (getAttr (.ref g) (Str.ofString "storage") expr) Q E s := by
  obtain ⟨d, ka, h1, h2⟩ := hi
  k_steps
  exact h _
theorem lim_storage_f (F : Fr h₀ L s.heap m) (X : (kd.heap_1 w.params).In h₀) (N : News h₀ L s.heap news) {A : Around} {z : Z} {g : Addr} {expr : Bool} (hi : LimIn w news z 241 g) (h : ∀ t, Q (.ref z.self) { s with toks := t }) :
    wpAny (model prog w) A (getAttr (.ref g) (Str.ofString "storage") expr) Q E s := by
  obtain ⟨d, ka, h1, h2⟩ := hi
  k_steps
  exact h _
theorem lim_hit_m (F : Fr h₀ L s.heap m) (X : (kd.heap_1 w.params).In h₀) (N : News h₀ L s.heap news) {A : Around} {z : Z} {g : Addr} {pl : Sem Bool} {Q : Value × List Value → Shared → Prop} (hi : LimIn w news z 202 g) (h : Q (.ref 181, [.ref g]) s) :
    wpAny (model prog w) A (getMethod (.ref g) (Str.ofString "hit") pl) Q E s := by
  obtain ⟨d, ka, h1, h2⟩ := hi
  k_steps
  exact h
theorem lim_test_m (F : Fr h₀ L s.heap m) (X : (kd.heap_1 w.params).In h₀) (N : News h₀ L s.heap news) {A : Around} {z : Z} {g : Addr} {pl : Sem Bool} {Q : Value × List Value → Shared → Prop} (hi : LimIn w news z 202 g) (h : Q (.ref 190, [.ref g]) s) :
    wpAny (model prog w) A (getMethod (.ref g) (Str.ofString "test") pl) Q E s := by
  obtain ⟨d, ka, h1, h2⟩ := hi
  k_steps
  exact h
theorem lim_stats_m (F : Fr h₀ L s.heap m) (X : (kd.heap_1 w.params).In h₀) (N : News h₀ L s.heap news) {A : Around} {z : Z} {g : Addr} {pl : Sem Bool} {Q : Value × List Value → Shared → Prop} (hi : LimIn w news z 202 g) (h : Q (.ref 199, [.ref g]) s) :
    wpAny (model prog w) A (getMethod (.ref g) (Str.ofString "get_window_stats") pl) Q E s := by
  obtain ⟨d, ka, h1, h2⟩ := hi
  k_steps
  exact h
theorem lim_hit_f (F : Fr h₀ L s.heap m) (X : (kd.heap_1 w.params).In h₀) (N : News h₀ L s.heap news) {A : Around} {z : Z} {g : Addr} {pl : Sem Bool} {Q : Value × List Value → Shared → Prop} (hi : LimIn w news z 241 g) (h : Q (.ref 220, [.ref g]) s) :
    wpAny (model prog w) A (getMethod (.ref g) (Str.ofString "hit") pl) Q E s := by
  obtain ⟨d, ka, h1, h2⟩ := hi
  k_steps
  exact h
theorem lim_test_f (F : Fr h₀ L s.heap m) (X : (kd.heap_1 w.params).In h₀) (N : News h₀ L s.heap news) {A : Around} {z : Z} {g : Addr} {pl : Sem Bool} {Q : Value × List Value → Shared → Prop} (hi : LimIn w news z 241 g) (h : Q (.ref 229, [.ref g]) s) :
    wpAny (model prog w) A (getMethod (.ref g) (Str.ofString "test") pl) Q E s := by
  obtain ⟨d, ka, h1, h2⟩ := hi
  k_steps
  exact h
theorem lim_stats_f (F : Fr h₀ L s.heap m) (X : (kd.heap_1 w.params).In h₀) (N : News h₀ L s.heap news) {A : Around} {z : Z} {g : Addr} {pl : Sem Bool} {Q : Value × List Value → Shared → Prop} (hi : LimIn w news z 241 g) (h : Q (.ref 238, [.ref g]) s) :
    wpAny (model prog w) A (getMethod (.ref g) (Str.ofString "get_window_stats") pl) Q E s := by
  obtain ⟨d, ka, h1, h2⟩ := hi
  k_steps
  exact h
end
end
section
open Lean PySem PySem.Calls PySem.W PyProof.Rows PyProof.V PySem.Spec PyProof.Rows.LCg
local macro_rules | `(tactic| walk_at $s:str) => `(tactic| k_extra $(Lean.Syntax.mkStrLit ("M1 " ++ s.getString)))
section
variable {prog : Program} {w : World} {p : Program} {loose : List Str} {mean : ExcName → Option Value} {mg mb : Str → Option Value} {dp un : Nat} {gd : Option (List Code)} {cn : Str} {cs : Scope} {a : Addr} {ccd : Value} {cl : List (Str × Addr)} {outer : List Env} {A₀ : Around} {base h₀ : Heap} {L : Addr} {m : Str → Option Value} {news : List (Addr × Obj)} {s : Shared} {Q E : Value → Shared → Prop}
theorem ln_M1_1 : True := by
  try walk1
  k_with "M1 k:k_room" => k_extra "ln 0"
  k_with "M1 k:k_enter" => k_extra "ln 1"
  k_with "M1 my_mem" => k_extra "ln 2"
  k_with "M1 k:k_mem" => k_extra "ln 3"
  k_with "M1 my_split" => k_extra "ln 4"
  k_with "M1 my_ltf" => k_extra "ln 5"
  k_with "M1 k:k_ne" => k_extra "ln 6"
  k_with "M1 my_reord" => k_extra "ln 7"
  k_with "M1 my_all" => k_extra "ln 8"
  k_with "M1 k:k_all" => k_extra "ln 9"
  k_with "M1 call builtin:len" => k_extra "ln 10"
  k_with "M1 subscriptTail" => k_extra "ln 11"
  k_with "M1 subscriptTail Name Name ref int" => k_extra "ln 11"
  k_with "M1 subscriptTail" => k_extra "ln 12"
  k_with "M1 subscriptTail Name Slice ref ref" => k_extra "ln 12"
  k_with "M1 call builtin:sum" => k_extra "ln 13"
  k_with "M1 my_rows" => k_extra "ln 15"
  k_with "M1 my_room" => k_extra "ln 16"
  k_with "M1 my_ctx" => k_extra "ln 17"
  k_with "M1 my_ctx0" => k_extra "ln 18"
  k_with "M1 my_store" => k_extra "ln 38"
  k_with "M1 my_clock" => k_extra "ln 39"
  k_with "M1 getAttr ref" => k_extra "ln 40"
  k_with "M1 getAttr ref" => k_extra "ln 41"
  k_with "M1 getAttr ref" => k_extra "ln 42"
  k_with "M1 getMethod ref" => k_extra "ln 43"
  k_with "M1 getMethod ref" => k_extra "ln 44"
  k_with "M1 getMethod ref" => k_extra "ln 45"
  k_with "M1 getMethod ref" => k_extra "ln 46"
  k_with "M1 getMethod ref" => k_extra "ln 47"
  k_with "M1 call ref" => k_extra "ln 48"
  k_with "M1 getMethod ref" => k_extra "ln 49"
  k_with "M1 getMethod ref" => k_extra "ln 50"
  k_with "M1 callWith ref" => k_extra "ln 51"
  k_with "M1 my_val" => k_extra "ln 52"
  k_with "M1 my_size" => k_extra "ln 53"
  k_with "M1 call builtin:dict.get" => k_extra "ln 54"
  k_with "M1 call builtin:dict.pop" => k_extra "ln 55"
  k_with "M1 subscriptTail" => k_extra "ln 56"
  k_with "M1 subscriptTail Attribute Name Name ref str" => k_extra "ln 56"
  k_with "M1 setItem ref str" => k_extra "ln 57"
  k_with "M1 my_item" => k_extra "ln 27"
  k_with "M1 getAttr ref" => k_extra "ln 28"
  k_with "M1 getAttr ref" => k_extra "ln 29"
  k_with "M1 getAttr ref" => k_extra "ln 30"
  k_with "M1 getAttr ref" => k_extra "ln 31"
  k_with "M1 getAttr ref" => k_extra "ln 32"
  k_with "M1 getAttr ref" => k_extra "ln 33"
  k_with "M1 getMethod ref" => k_extra "ln 34"
  k_with "M1 getMethod ref" => k_extra "ln 35"
  k_with "ln 89" => ((k_here; (with_reducible show wpAny _ _ (call (Value.ref 644) _ _) _ _ _); refine Stop.out ?_))
  k_with "M1 call ref" => k_extra "ln 89"
  trivial

def HitRet (h₀ : Heap) (L : Addr) (m : Str → Option Value) (prog : Program) (w : World) (z : Z) (oSt oEx oEv oT oN : Obj) (rest : List (Addr × Obj)) (kV : List (Str × Value)) (key : Str) (evs : List Int) (b : Bool) (evs' : List Int) (s : Shared) (Q : Value → Shared → Prop) : Prop :=
  ∀ h' tk' oEv' kV' ext, Fr h₀ L h' m → News h₀ L h' ((z.st, oSt) :: (z.ex, oEx) :: (z.ev, oEv') :: (653, oT) :: (z.nw, oN) :: (ext ++ rest)) →
      Above ext ((z.st, oSt) :: (z.ex, oEx) :: (z.ev, oEv) :: (653, oT) :: (z.nw, oN) :: rest) → oEv'.IsDictOf (strKind prog w) kV' → kV'.length ≤ kV.length + 1 → (∀ r0, (∀ p ∈ r0, p ∈ rest) → EvAt w r0 kV key evs → EvAt w (ext ++ r0) kV' key evs') → (∀ k2, k2 ≠ key → valueAt kV' k2 = valueAt kV k2) →
      Q (.bool b) { s with heap := h', toks := tk' }
theorem ln_M1_2 : True := by
  k_with "ln 90" => (first | assumption | exact LimIn.mono (by assumption) (by intro p hp; k_mem))
  k_with "M1 my_lim" => k_extra "ln 90"
  k_with "ln 91" => ((k_here; (with_reducible show wpAny _ _ (getAttr _ (Str.ofString "storage") _) _ _ _); k_dflt (refine' lim_storage_m ?z91xF ?z91xX ?z91xN ?z91xi ?_; (case z91xF => k_asm); (case z91xX => k_asm); (case z91xN => k_asm); (case z91xi => walk_at "my_lim"); k_whole); intro t'q))
  k_with "M1 getAttr ref" => k_extra "ln 91"
  k_with "ln 92" => ((k_here; (with_reducible show wpAny _ _ (call (Value.ref 396) _) _ _ _); k_dflt (refine' get_expiry_ok ?zcB ?zcF ?zcX ?zcN ?zcT ?zchk ?zcdp ?zcun ?z92xi ?z92xk ?z92xa ?z92xb ?_; (walk_at "my_ctx"); (case z92xi => walk_at "my_item"); (case z92xk => assumption); (case z92xa => assumption); (case z92xb => assumption); k_whole); intro h'q tk'q t'q F'q N'q))
  k_with "M1 call ref" => k_extra "ln 92"
  k_with "ln 93" => ((k_here; (with_reducible show wpAny _ _ (call (Value.ref 403) _) _ _ _); k_dflt (refine' key_for_ok ?zcB ?zcF ?zcX ?zcN ?zcT ?zchk ?zcdp ?zcun ?z93xi ?z93xk ?z93xa ?z93xb ?z93xc ?z93xd ?z93xe ?z93xf ?z93xn ?_; (walk_at "my_ctx"); (case z93xi => walk_at "my_item"); (case z93xk => assumption); (case z93xa => assumption); (case z93xb => assumption); (case z93xc => assumption); (case z93xd => assumption); (case z93xe => assumption); (case z93xf => assumption); (case z93xn => k_mem); k_whole); intro h'q tk'q t'q F'q N'q))
  k_with "M1 call ref" => k_extra "ln 93"
  k_with "ln 94" => ((k_here; (with_reducible show wpAny _ _ (call (Value.ref 644) _ _) _ _ _); k_dflt (refine' acq_ok ?z94xXB ?z94xTB ?z94xD ?zcB ?zcF ?zcX ?zcN ?zcT ?zchk ?zcdp ?zcun ?z94xn ?z94xz ?z94xo ?z94xS ?z94xC ?z94xdV ?z94xhl ?z94xhc ?z94xhA ?z94xv ?z94xb ?_; (walk_at "my_ctx"); (case z94xXB => assumption); (case z94xTB => assumption); (case z94xD => assumption); (case z94xn => exact rfl); (case z94xz => assumption); (case z94xo => assumption); (case z94xS => assumption); (case z94xC => assumption); (case z94xdV => assumption); (case z94xhl => assumption); (case z94xhc => assumption); (case z94xhA => assumption); (case z94xv => assumption); (case z94xb => assumption); k_whole); unfold AcqRet; intro h'q tk'q oEv'q kV'q ext'q g'q T'q F'q N'q B'q X'q P'q D'q s1'q s2'q s3'q s4'q s5'q))
  k_with "M1 call ref" => k_extra "ln 94"
  k_with "ln 95" => ((k_here; (with_reducible show wpAny _ _ (call (Value.ref 181) _) _ _ _); refine wpAny_call ?_; k_dflt (refine' code_defS0X ?z95xk1 ?z95xk2 ?z95xk3 ?z95xk4 ?z95xk5 ?z95xkA ?z95xkF ?z95xkK ?z95xk6 ?z95xk7 ?z95xk8 ?z95xk9 ?z95xkB ?_ ?z95xc2 ?z95xc3 ?z95xc4 ?z95xc5; (case z95xkA => exact rfl); (case z95xkF => exact rfl); (case z95xkK => assumption); (case z95xk2 => k_asm); (case z95xk1 => k_asm); (case z95xk3 => k_asm); (case z95xk4 => k_asm); (case z95xk5 => k_asm); (case z95xk6 => k_is); (case z95xk7 => k_is); (case z95xk8 => k_room); (case z95xk9 => first | exact BindsTo.of_eq rfl | exact binds_K (by k_in) rfl (by k_is) rfl rfl rfl); (case z95xkB => exact locs rfl); (case z95xc2 => exact rfl); (case z95xc3 => exact rfl); (case z95xc4 => exact rfl); (case z95xc5 => decide); k_whole; intro g'q L'q h'q FG'q F'q N'q B'q X'q T'q D'q; (try dsimp only); (try k_lift B'q); (try k_fold))))
  k_with "M1 call ref" => k_extra "ln 95"
  trivial

set_option maxHeartbeats 8000000 in
theorem mhit_ok (B : Below A₀ h₀ [] h₀) (F : Fr h₀ L s.heap m) (X : (kd.heap_1 w.params).In h₀) (N : News h₀ L s.heap news) (T : Top p loose mean mg mb h₀) (hk : cs.kind = .function) (hdp : dp ≤ 920) (hun : un ≤ 9300)
   {z : Z} {oSt oEx oEv oT oN : Obj} {rest : List (Addr × Obj)} {kV : List (Str × Value)} {tk3 t1 t2 : Tok} {nn : Nat} {now amt c sec mul n : Int} {evs : List Int} {gm it C g tn : Addr} {nm : Str}
   (hn : news = (z.st, oSt) :: (z.ex, oEx) :: (z.ev, oEv) :: (653, oT) :: (z.nw, oN) :: rest) (hz : Okz z) (ho : Offz z rest)
   (hS : StoreIn w rest z) (hC : ClockIn ((z.nw, oN) :: rest) z.clk now) (dV : oEv.IsDictOf (strKind prog w) kV) (hlen : kV.length ≤ 1000) (hc : 1 ≤ c)
   (hG : LimIn w rest z 202 gm) (hi : ItemIn w rest it C amt mul) (hK : Kind C g sec nm) (hm : 1 ≤ mul) (hm' : mul ≤ 5) (ha : 1 ≤ amt) (ha' : amt ≤ 9) (hn0 : 0 ≤ n) (hn1 : n ≤ 63)
   (hnm : (tn, ({ cls := .type "tuple", data := .seq #[.str (Str.ofString "ann") t1, .int n t2] nn } : Obj)) ∈ rest)
   (hv : EvAt w rest kV (keyStr n amt mul nm) evs) (hb : evs.length ≤ 1000)
   (ret : HitRet h₀ L m prog w z oSt oEx oEv oT oN rest kV (keyStr n amt mul nm) evs (acqR now (sec * mul) amt c evs).1 (acqR now (sec * mul) amt c evs).2 s Q) :
   wpAny (model prog w) (ktrTop dp un gd cn cs L a ccd cl []) (call (.ref 181) [.ref gm, .ref it, .ref tn, .int c tk3]) Q E s := by
  subst hn
  k_steps
  exact ret _ _ _ _ _ (by assumption) (by assumption) (by assumption) (by assumption) (by assumption) (by assumption) (by assumption)
end
end
section
open PySem PySem.Calls PySem.W PyProof.Rows
theorem acq_accept {A W now c : Int} {rows : List Row} (hW : 1 ≤ W) (hu : Up rows) (ht : Till now rows) (hp : Paid rows) (hc : 1 ≤ c) (hf : fitsM A W rows = true)
    (h1 : fitsM A W (rows ++ [(now, c)]) = true) (h2 : fitsM A (W + 1) (rows ++ [(now, c)]) = true) : acqR now W A c (evOf rows) = (true, evOf (rows ++ [(now, c)])) := by
  rw [fitsM_snoc hW hu ht hp hf, decide_eq_true_eq] at h1
  have h0 := csum_nonneg (now := now) (W := W) hp
  have hk := known_le (V := W + 1) (by omega) hu ht h2
  have hi := idx_ev (now := now) (W := W + 1) rows hu hp
  have hb : ¬ A < c := by omega
  rw [evOf_snoc]
  unfold acqR
  rw [if_neg hb]
  cases e : (evOf rows)[(A - c).toNat]? with
  | none => rfl
  | some t =>
    have := idx_past (b := now - (W + 1)) (desc_ev rows hu) (i := (A - c).toNat) (by omega) e
    dsimp only
    rw [if_neg (by omega)]
theorem acq_reject {A W now c : Int} {rows : List Row} (hW : 1 ≤ W) (hu : Up rows) (ht : Till now rows) (hp : Paid rows) (hf : fitsM A W rows = true)
    (h1 : fitsM A W (rows ++ [(now, c)]) = false) : acqR now W A c (evOf rows) = (false, evOf rows) := by
  rw [fitsM_snoc hW hu ht hp hf, decide_eq_false_iff_not] at h1
  have hi := idx_ev (now := now) (W := W) rows hu hp
  unfold acqR
  by_cases hb : A < c
  · rw [if_pos hb]
  · rw [if_neg hb]
    have hl : (A - c).toNat < idx (now - W) (evOf rows) := by omega
    have hl2 := Nat.lt_of_lt_of_le hl (idx_le (now - W) (evOf rows))
    have e : (evOf rows)[(A - c).toNat]? = some (evOf rows)[(A - c).toNat] := List.getElem?_eq_getElem hl2
    have := idx_get hl e
    rw [e]
    dsimp only
    rw [if_pos (by omega)]
theorem rep_len (k : Nat) : ∀ l : List Row, (∀ r ∈ l, r.2.toNat ≤ k) → (l.flatMap fun r => List.replicate r.2.toNat r.1).length ≤ k * l.length
  | [], _ => by simp
  | r :: l, h => by
    have ih := rep_len k l fun x hx => h x (.tail _ hx)
    have := h r (.head _)
    simp only [List.flatMap_cons, List.length_append, List.length_replicate, List.length_cons, Nat.mul_add, Nat.mul_one]
    omega
theorem wsum_nonneg {st W : Int} : ∀ {l : List Row}, Paid l → 0 ≤ wsum st W l
  | [], _ => by simp [wsum]
  | r :: l, h => by
    have := wsum_nonneg (st := st) (W := W) (l := l) fun x hx => h x (.tail _ hx)
    have := h r (.head _)
    simp only [wsum]; split <;> omega
theorem fits_each {A W : Int} (hW : 1 ≤ W) : ∀ {l : List Row}, Paid l → fitsM A W l = true → ∀ r ∈ l, r.2 ≤ A
  | [], _, _, _, h => nomatch h
  | r :: l, hp, hf, x, hx => by
    simp only [fitsM, Bool.and_eq_true, decide_eq_true_eq] at hf
    have hp' : Paid l := fun x hx => hp x (.tail _ hx)
    rcases List.mem_cons.mp hx with rfl | hx
    · have h1 := hf.1
      simp only [wsum] at h1
      rw [if_pos (by omega)] at h1
      have := wsum_nonneg (st := x.1) (W := W) hp'
      omega
    · exact fits_each hW hp' hf.2 x hx
theorem ev_len {A W : Int} {rows : List Row} (hW : 1 ≤ W) (hp : Paid rows) (hf : fitsM A W rows = true) : (evOf rows).length ≤ A.toNat * rows.length := by
  unfold evOf
  have := rep_len A.toNat rows.reverse fun r hr => by
    have := fits_each hW hp hf r (List.mem_reverse.mp hr)
    omega
  rwa [List.length_reverse] at this
/-- the fixed window's counter says what the rows say, from t on -/
def FxOk (W : Int) (rows : List Row) (t : Int) (fx : Option (Int × Int)) : Prop :=
  ∀ now, t ≤ now → live now fx = match (fstate W none 0 rows).1 with | none => none | some o => if W ≤ now - o then none else some ((fstate W none 0 rows).2, o + W)
theorem FxOk.start (W t : Int) : FxOk W [] t none := fun _ _ => rfl
theorem FxOk.tot {W t now : Int} {rows : List Row} {fx : Option (Int × Int)} (h : FxOk W rows t fx) (hn : t ≤ now) : tot (live now fx) = fval W rows now := by
  rw [h now hn]
  unfold fval fopen
  cases (fstate W none 0 rows).1 with
  | none => rfl
  | some o =>
    dsimp only
    by_cases e : W ≤ now - o
    · rw [if_pos e, if_pos (decide_eq_true e)]; rfl
    · rw [if_neg e, if_neg (by simpa using e)]; rfl
theorem live_live {now now' : Int} (h : now ≤ now') (fx : Option (Int × Int)) : live now' (live now fx) = live now' fx := by
  cases fx with
  | none => rfl
  | some p =>
    obtain ⟨a, e⟩ := p
    by_cases h1 : e ≤ now
    · rw [live_gone h1, live_gone (show e ≤ now' by omega)]; rfl
    · rw [live_here h1]
theorem FxOk.live {W t now : Int} {rows : List Row} {fx : Option (Int × Int)} (h : FxOk W rows t fx) (hn : t ≤ now) : FxOk W rows now (Mine.live now fx) := fun now' h' => by
  rw [live_live h']; exact h now' (by omega)
theorem FxOk.pos {W t now : Int} {rows : List Row} {fx : Option (Int × Int)} (h : FxOk W rows t fx) (hn : t ≤ now) (hp : Paid rows) : ∀ a e, Mine.live now fx = some (a, e) → 1 ≤ a := by
  intro a e he
  rw [h now hn] at he
  cases ho : (fstate W none 0 rows).1 with
  | none => rw [ho] at he; cases he
  | some o =>
    rw [ho] at he
    dsimp only at he
    split at he
    · cases he
    · cases he
      exact fstate_tot hp (fun h => by cases h) (by rw [ho]; rfl)
theorem FxOk.bump {W t now c : Int} {rows : List Row} {fx : Option (Int × Int)} (h : FxOk W rows t fx) (hn : t ≤ now) (hW : 1 ≤ W) : FxOk W (rows ++ [(now, c)]) now (Mine.bump now W c (Mine.live now fx)) := by
  intro now' h'
  rw [fstate_snoc, h now hn]
  cases ho : (fstate W none 0 rows).1 with
  | none =>
    rw [if_pos (show fopen W none now = true from rfl)]
    show Mine.live now' (some (c, now + W)) = if W ≤ now' - now then none else some (c, now + W)
    by_cases e : W ≤ now' - now
    · rw [if_pos e, live_gone (by omega)]
    · rw [if_neg e, live_here (by omega)]
  | some o =>
    by_cases e : W ≤ now - o
    · rw [if_pos (show fopen W (some o) now = true from decide_eq_true e)]
      dsimp only
      rw [if_pos e]
      show Mine.live now' (some (c, now + W)) = if W ≤ now' - now then none else some (c, now + W)
      by_cases e : W ≤ now' - now
      · rw [if_pos e, live_gone (by omega)]
      · rw [if_neg e, live_here (by omega)]
    · rw [if_neg (show ¬ fopen W (some o) now = true from by simpa [fopen] using e)]
      dsimp only
      rw [if_neg e]
      show Mine.live now' (some ((fstate W none 0 rows).2 + c, o + W)) = if W ≤ now' - o then none else some ((fstate W none 0 rows).2 + c, o + W)
      by_cases e : W ≤ now' - o
      · rw [if_pos e, live_gone (by omega)]
      · rw [if_neg e, live_here (by omega)]
theorem bump_tot {W t now c : Int} {rows : List Row} {fx : Option (Int × Int)} (h : FxOk W rows t fx) (hn : t ≤ now) : Mine.tot (Mine.bump now W c (Mine.live now fx)) = fval W rows now + c := by
  rw [← h.tot hn]
  cases Mine.live now fx with
  | none => show c = 0 + c; omega
  | some p => rfl
end
section
open Lean PySem PySem.Calls PySem.W PyProof.Rows PyProof.V PySem.Spec PyProof.Rows.LCg
local macro_rules | `(tactic| walk_at $s:str) => `(tactic| k_extra $(Lean.Syntax.mkStrLit ("M2 " ++ s.getString)))
local macro_rules | `(tactic| walk_at "none") => `(tactic| fail)
section
variable {prog : Program} {w : World} {p : Program} {loose : List Str} {mean : ExcName → Option Value} {mg mb : Str → Option Value} {dp un : Nat} {gd : Option (List Code)} {cn : Str} {cs : Scope} {a : Addr} {ccd : Value} {cl : List (Str × Addr)} {outer : List Env} {A₀ : Around} {base h₀ : Heap} {L : Addr} {m : Str → Option Value} {news : List (Addr × Obj)} {s : Shared} {Q E : Value → Shared → Prop}
theorem ln_M2_1 : True := by
  try walk1
  k_with "M2 k:k_room" => k_extra "ln 0"
  k_with "M2 k:k_enter" => k_extra "ln 1"
  k_with "M2 my_mem" => k_extra "ln 2"
  k_with "M2 k:k_mem" => k_extra "ln 3"
  k_with "M2 my_split" => k_extra "ln 4"
  k_with "M2 my_ltf" => k_extra "ln 5"
  k_with "M2 k:k_ne" => k_extra "ln 6"
  k_with "M2 my_reord" => k_extra "ln 7"
  k_with "M2 my_all" => k_extra "ln 8"
  k_with "M2 k:k_all" => k_extra "ln 9"
  k_with "M2 call builtin:len" => k_extra "ln 10"
  k_with "M2 subscriptTail" => k_extra "ln 11"
  k_with "M2 subscriptTail Name Name ref int" => k_extra "ln 11"
  k_with "M2 subscriptTail" => k_extra "ln 12"
  k_with "M2 subscriptTail Name Slice ref ref" => k_extra "ln 12"
  k_with "M2 call builtin:sum" => k_extra "ln 13"
  k_with "M2 my_rows" => k_extra "ln 15"
  k_with "M2 my_room" => k_extra "ln 16"
  k_with "M2 my_ctx" => k_extra "ln 17"
  k_with "M2 my_ctx0" => k_extra "ln 18"
  k_with "M2 my_store" => k_extra "ln 38"
  k_with "M2 my_clock" => k_extra "ln 39"
  k_with "M2 getAttr ref" => k_extra "ln 40"
  k_with "M2 getAttr ref" => k_extra "ln 41"
  k_with "M2 getAttr ref" => k_extra "ln 42"
  k_with "M2 getMethod ref" => k_extra "ln 43"
  k_with "M2 getMethod ref" => k_extra "ln 44"
  k_with "M2 getMethod ref" => k_extra "ln 45"
  k_with "M2 getMethod ref" => k_extra "ln 46"
  k_with "M2 getMethod ref" => k_extra "ln 47"
  k_with "M2 call ref" => k_extra "ln 48"
  k_with "M2 getMethod ref" => k_extra "ln 49"
  k_with "M2 getMethod ref" => k_extra "ln 50"
  k_with "M2 callWith ref" => k_extra "ln 51"
  k_with "M2 my_val" => k_extra "ln 52"
  k_with "M2 my_size" => k_extra "ln 53"
  k_with "M2 call builtin:dict.get" => k_extra "ln 54"
  k_with "M2 call builtin:dict.pop" => k_extra "ln 55"
  k_with "M2 subscriptTail" => k_extra "ln 56"
  k_with "M2 subscriptTail Attribute Name Name ref str" => k_extra "ln 56"
  k_with "M2 setItem ref str" => k_extra "ln 57"
  k_with "M2 my_item" => k_extra "ln 27"
  k_with "M2 getAttr ref" => k_extra "ln 28"
  k_with "M2 getAttr ref" => k_extra "ln 29"
  k_with "M2 getAttr ref" => k_extra "ln 30"
  k_with "M2 getAttr ref" => k_extra "ln 31"
  k_with "M2 getAttr ref" => k_extra "ln 32"
  k_with "M2 getAttr ref" => k_extra "ln 33"
  k_with "M2 getMethod ref" => k_extra "ln 34"
  k_with "M2 getMethod ref" => k_extra "ln 35"
  k_with "M2 my_lim" => k_extra "ln 90"
  k_with "M2 call ref" => k_extra "ln 92"
  k_with "M2 call ref" => k_extra "ln 93"
  k_with "M2 getAttr ref" => k_extra "ln 91"
  trivial

/-- what a look leaves -/
def LookRet (h₀ : Heap) (L : Addr) (m : Str → Option Value) (z : Z) (oSt oEx oEv oN : Obj) (ps : Array Value) (rest : List (Addr × Obj)) (v : Value) (s : Shared) (Q : Value → Shared → Prop) : Prop :=
  ∀ h' tk' ps' ext, Fr h₀ L h' m → News h₀ L h' ((z.st, oSt) :: (z.ex, oEx) :: (z.ev, oEv) :: (653, tabObj ps') :: (z.nw, oN) :: (ext ++ rest)) →
      Above ext ((z.st, oSt) :: (z.ex, oEx) :: (z.ev, oEv) :: (653, tabObj ps) :: (z.nw, oN) :: rest) → (∀ r0, TabOk r0 ps → TabOk (ext ++ r0) ps') → Q v { s with heap := h', toks := tk' }
theorem ln_M2_2 : True := by
  k_with "ln 96" => ((k_here; (with_reducible show wpAny _ _ (call (Value.ref 658) _ _) _ _ _); refine Stop.out ?_))
  k_with "M2 call ref" => k_extra "ln 96"
  k_with "ln 97" => ((k_here; (with_reducible show wpAny _ _ (call (Value.ref 658) _ _) _ _ _); k_dflt (refine' gmw_ok ?zcB ?zcF ?zcX ?zcN ?zcT ?zchk ?zcdp ?zcun ?z97xn ?z97xz ?z97xo ?z97xS ?z97xC ?z97xtb ?z97xdV ?z97xv ?z97xd ?z97xb ?_; (walk_at "my_ctx"); (case z97xn => exact rfl); (case z97xz => assumption); (case z97xo => assumption); (case z97xS => assumption); (case z97xC => assumption); (case z97xtb => assumption); (case z97xdV => assumption); (case z97xv => assumption); (case z97xd => assumption); (case z97xb => assumption); k_whole); intro h'q tk'q r'q x'q u'q v'q n'q ps'q ext'q F'q N'q s1'q s2'q))
  k_with "M2 call ref" => k_extra "ln 97"
  trivial

set_option maxHeartbeats 8000000 in
theorem mtest_ok (B : Below A₀ base outer h₀) (F : Fr h₀ L s.heap m) (X : (kd.heap_1 w.params).In h₀) (N : News h₀ L s.heap news) (T : Top p loose mean mg mb h₀) (hk : cs.kind = .function) (hdp : dp ≤ 920) (hun : un ≤ 9320)
   {z : Z} {oSt oEx oEv oN : Obj} {ps : Array Value} {rest : List (Addr × Obj)} {kV : List (Str × Value)} {tk3 t1 t2 : Tok} {nn : Nat} {now amt c sec mul n : Int} {evs : List Int} {gm it C g tn : Addr} {nm : Str}
   (hn : news = (z.st, oSt) :: (z.ex, oEx) :: (z.ev, oEv) :: (653, tabObj ps) :: (z.nw, oN) :: rest) (hz : Okz z) (ho : Offz z rest)
   (hS : StoreIn w rest z) (hC : ClockIn ((z.nw, oN) :: rest) z.clk now) (ht : TabOk rest ps) (dV : oEv.IsDictOf (strKind prog w) kV)
   (hG : LimIn w rest z 202 gm) (hi : ItemIn w rest it C amt mul) (hK : Kind C g sec nm) (hm : 1 ≤ mul) (hm' : mul ≤ 5) (ha : 1 ≤ amt) (ha' : amt ≤ 9) (hn0 : 0 ≤ n) (hn1 : n ≤ 63)
   (hnm : (tn, ({ cls := .type "tuple", data := .seq #[.str (Str.ofString "ann") t1, .int n t2] nn } : Obj)) ∈ rest)
   (hv : EvAt w rest kV (keyStr n amt mul nm) evs) (hd : Desc evs) (hb : evs.length ≤ 16777216)
   (ret : LookRet h₀ L m z oSt oEx oEv oN ps rest (.bool (decide ((idx (now - sec * mul) evs : Int) ≤ amt - c))) s Q) :
   wpAny (model prog w) (ktrTop dp un gd cn cs L a ccd cl outer) (call (.ref 190) [.ref gm, .ref it, .ref tn, .int c tk3]) Q E s := by
  subst hn
  k_steps
  exact ret _ _ _ _ (by assumption) (cb_drop (by assumption) fun _ h => .tail _ h) (by assumption) (by assumption)
theorem drop3 {h₀ h : Heap} {L : Addr} {a b c : Addr × Obj} {l : List (Addr × Obj)} (N : News h₀ L h (a :: b :: c :: l)) : News h₀ L h (a :: b :: l) := cb_drop N fun p hp => by
  rcases List.mem_cons.mp hp with rfl | hp
  · exact .head _
  rcases List.mem_cons.mp hp with rfl | hp
  · exact .tail _ (.head _)
  · exact .tail _ (.tail _ (.tail _ hp))
def StatRet (h₀ : Heap) (L : Addr) (m : Str → Option Value) (z : Z) (oSt oEx oEv oN : Obj) (ps : Array Value) (rest : List (Addr × Obj)) (left : Int) (s : Shared) (Q : Value → Shared → Prop) : Prop :=
  ∀ h' tk' ps' ext r d x t u, Fr h₀ L h' m → News h₀ L h' ((r, wsObj #[.int x t, .int left u] d 0) :: (d, emptyDict) :: (z.st, oSt) :: (z.ex, oEx) :: (z.ev, oEv) :: (653, tabObj ps') :: (z.nw, oN) :: (ext ++ rest)) →
      Above ext ((z.st, oSt) :: (z.ex, oEx) :: (z.ev, oEv) :: (653, tabObj ps) :: (z.nw, oN) :: rest) → (∀ r0, TabOk r0 ps → TabOk (ext ++ r0) ps') → Q (.ref r) { s with heap := h', toks := tk' }
theorem ln_M2_3 : True := by
  k_with "ln 98" => ((k_here; (with_reducible show wpAny _ _ (call (Value.ref 132) _) _ _ _); k_dflt (refine' ws_new_ok ?zcB ?zcF ?zcX ?zcN ?zcT ?zchk ?zcdp ?zcun ?_; (walk_at "my_ctx"); k_whole); unfold WsEnd; intro h'q tk'q r'q d'q F'q N'q))
  k_with "M2 call ref" => k_extra "ln 98"
  trivial

set_option maxHeartbeats 8000000 in
theorem mstats_ok (B : Below A₀ base outer h₀) (F : Fr h₀ L s.heap m) (X : (kd.heap_1 w.params).In h₀) (N : News h₀ L s.heap news) (T : Top p loose mean mg mb h₀) (hk : cs.kind = .function) (hdp : dp ≤ 920) (hun : un ≤ 9320)
   {z : Z} {oSt oEx oEv oN : Obj} {ps : Array Value} {rest : List (Addr × Obj)} {kV : List (Str × Value)} {t1 t2 : Tok} {nn : Nat} {now amt sec mul n : Int} {evs : List Int} {gm it C g tn : Addr} {nm : Str}
   (hn : news = (z.st, oSt) :: (z.ex, oEx) :: (z.ev, oEv) :: (653, tabObj ps) :: (z.nw, oN) :: rest) (hz : Okz z) (ho : Offz z rest)
   (hS : StoreIn w rest z) (hC : ClockIn ((z.nw, oN) :: rest) z.clk now) (ht : TabOk rest ps) (dV : oEv.IsDictOf (strKind prog w) kV)
   (hG : LimIn w rest z 202 gm) (hi : ItemIn w rest it C amt mul) (hK : Kind C g sec nm) (hm : 1 ≤ mul) (hm' : mul ≤ 5) (ha : 1 ≤ amt) (ha' : amt ≤ 9) (hn0 : 0 ≤ n) (hn1 : n ≤ 63)
   (hnm : (tn, ({ cls := .type "tuple", data := .seq #[.str (Str.ofString "ann") t1, .int n t2] nn } : Obj)) ∈ rest)
   (hv : EvAt w rest kV (keyStr n amt mul nm) evs) (hd : Desc evs) (hb : evs.length ≤ 16777216)
   (ret : StatRet h₀ L m z oSt oEx oEv oN ps rest (amt - idx (now - sec * mul) evs) s Q) :
   wpAny (model prog w) (ktrTop dp un gd cn cs L a ccd cl outer) (call (.ref 199) [.ref gm, .ref it, .ref tn]) Q E s := by
  subst hn
  k_steps
  exact ret _ _ _ _ _ _ _ _ _ (by assumption) (drop3 (by assumption)) (by assumption) (by assumption)
end
end
section
open Lean PySem PySem.Calls PySem.W PyProof.Rows PyProof.V PySem.Spec PyProof.Rows.LCg
local macro_rules | `(tactic| walk_at $s:str) => `(tactic| k_extra $(Lean.Syntax.mkStrLit ("F1 " ++ s.getString)))
section
variable {prog : Program} {w : World} {p : Program} {loose : List Str} {mean : ExcName → Option Value} {mg mb : Str → Option Value} {dp un : Nat} {gd : Option (List Code)} {cn : Str} {cs : Scope} {a : Addr} {ccd : Value} {cl : List (Str × Addr)} {outer : List Env} {A₀ : Around} {base h₀ : Heap} {L : Addr} {m : Str → Option Value} {news : List (Addr × Obj)} {s : Shared} {Q E : Value → Shared → Prop}
theorem ln_F1_1 : True := by
  try walk1
  k_with "F1 k:k_room" => k_extra "ln 0"
  k_with "F1 k:k_enter" => k_extra "ln 1"
  k_with "F1 my_mem" => k_extra "ln 2"
  k_with "F1 k:k_mem" => k_extra "ln 3"
  k_with "F1 my_split" => k_extra "ln 4"
  k_with "F1 my_ltf" => k_extra "ln 5"
  k_with "F1 k:k_ne" => k_extra "ln 6"
  k_with "F1 my_reord" => k_extra "ln 7"
  k_with "F1 my_all" => k_extra "ln 8"
  k_with "F1 k:k_all" => k_extra "ln 9"
  k_with "F1 call builtin:len" => k_extra "ln 10"
  k_with "F1 subscriptTail" => k_extra "ln 11"
  k_with "F1 subscriptTail Name Name ref int" => k_extra "ln 11"
  k_with "F1 subscriptTail" => k_extra "ln 12"
  k_with "F1 subscriptTail Name Slice ref ref" => k_extra "ln 12"
  k_with "F1 call builtin:sum" => k_extra "ln 13"
  k_with "F1 my_rows" => k_extra "ln 15"
  k_with "F1 my_room" => k_extra "ln 16"
  k_with "F1 my_ctx" => k_extra "ln 17"
  k_with "F1 my_ctx0" => k_extra "ln 18"
  k_with "F1 my_store" => k_extra "ln 38"
  k_with "F1 my_clock" => k_extra "ln 39"
  k_with "F1 getAttr ref" => k_extra "ln 40"
  k_with "F1 getAttr ref" => k_extra "ln 41"
  k_with "F1 getAttr ref" => k_extra "ln 42"
  k_with "F1 getMethod ref" => k_extra "ln 43"
  k_with "F1 getMethod ref" => k_extra "ln 44"
  k_with "F1 getMethod ref" => k_extra "ln 45"
  k_with "F1 getMethod ref" => k_extra "ln 46"
  k_with "F1 getMethod ref" => k_extra "ln 47"
  k_with "F1 call ref" => k_extra "ln 48"
  k_with "F1 getMethod ref" => k_extra "ln 49"
  k_with "F1 getMethod ref" => k_extra "ln 50"
  k_with "F1 callWith ref" => k_extra "ln 51"
  k_with "F1 my_val" => k_extra "ln 52"
  k_with "F1 my_size" => k_extra "ln 53"
  k_with "F1 call builtin:dict.get" => k_extra "ln 54"
  k_with "F1 call builtin:dict.pop" => k_extra "ln 55"
  k_with "F1 subscriptTail" => k_extra "ln 56"
  k_with "F1 subscriptTail Attribute Name Name ref str" => k_extra "ln 56"
  k_with "F1 setItem ref str" => k_extra "ln 57"
  k_with "F1 my_item" => k_extra "ln 27"
  k_with "F1 getAttr ref" => k_extra "ln 28"
  k_with "F1 getAttr ref" => k_extra "ln 29"
  k_with "F1 getAttr ref" => k_extra "ln 30"
  k_with "F1 getAttr ref" => k_extra "ln 31"
  k_with "F1 getAttr ref" => k_extra "ln 32"
  k_with "F1 getAttr ref" => k_extra "ln 33"
  k_with "F1 getMethod ref" => k_extra "ln 34"
  k_with "F1 getMethod ref" => k_extra "ln 35"
  k_with "F1 my_lim" => k_extra "ln 90"
  k_with "F1 call ref" => k_extra "ln 92"
  k_with "F1 call ref" => k_extra "ln 93"
  k_with "ln 99" => ((k_here; (with_reducible show wpAny _ _ (getAttr _ (Str.ofString "storage") _) _ _ _); k_dflt (refine' lim_storage_f ?z99xF ?z99xX ?z99xN ?z99xi ?_; (case z99xF => k_asm); (case z99xX => k_asm); (case z99xN => k_asm); (case z99xi => walk_at "my_lim"); k_whole); intro t'q))
  k_with "F1 getAttr ref" => k_extra "ln 99"
  k_with "F1 my_off" => k_extra "ln 58"
  k_with "F1 call ref" => k_extra "ln 59"
  trivial

theorem st_m_gex (F : Fr h₀ L s.heap m) (X : (kd.heap_1 w.params).In h₀) (N : News h₀ L s.heap news) {A : Around} {z : Z} {pl : Sem Bool} {Q : Value × List Value → Shared → Prop} (hi : StoreIn w news z) (h : Q (.ref 651, [.ref z.self]) s) :
    wpAny (model prog w) A (getMethod (.ref z.self) (Str.ofString "get_expiry") pl) Q E s := by
  obtain ⟨ka, kb, kc, kd, h1, h2⟩ := hi
  k_steps
  exact h
set_option maxHeartbeats 8000000 in
theorem gex_ok (B : Below A₀ base outer h₀) (F : Fr h₀ L s.heap m) (X : (kd.heap_1 w.params).In h₀) (N : News h₀ L s.heap news) (T : Top p loose mean mg mb h₀) (hk : cs.kind = .function) (hdp : dp ≤ 940) (hun : un ≤ 9440) {z : Z} {oSt oEx : Obj} {rest : List (Addr × Obj)} {kS kE : List (Str × Value)} {fx : Option (Int × Int)} {key : Str} {tk0 : Tok} {now : Int}
   (hn : news = (z.st, oSt) :: (z.ex, oEx) :: rest) (l2 : (z.ex == sysModules) = false)
   (hS : StoreIn w rest z) (hC : ClockIn rest z.clk now) (dE : oEx.IsDictOf (strKind prog w) kE) (hf : FX key kS kE fx)
   (ret : ∀ h' tk' x u, Fr h₀ L h' m → News h₀ L h' news → Q (.int x u) { s with heap := h', toks := tk' }) :
   wpAny (model prog w) (ktrTop dp un gd cn cs L a ccd cl outer) (call (.ref 651) [.ref z.self, .str key tk0]) Q E s := by
  subst hn
  cases hf with
  | none =>
    k_steps
    exact ret _ _ _ _ (by assumption) (by assumption)
  | some t e u v =>
    k_steps
    exact ret _ _ _ _ (by assumption) (by assumption)
end
end
section
open Lean PySem PySem.Calls PySem.W PyProof.Rows PyProof.V PySem.Spec PyProof.Rows.LCg
local macro_rules | `(tactic| walk_at $s:str) => `(tactic| k_extra $(Lean.Syntax.mkStrLit ("F2 " ++ s.getString)))
local macro_rules | `(tactic| walk_at "none") => `(tactic| fail)
section
variable {prog : Program} {w : World} {p : Program} {loose : List Str} {mean : ExcName → Option Value} {mg mb : Str → Option Value} {dp un : Nat} {gd : Option (List Code)} {cn : Str} {cs : Scope} {a : Addr} {ccd : Value} {cl : List (Str × Addr)} {outer : List Env} {A₀ : Around} {base h₀ : Heap} {L : Addr} {m : Str → Option Value} {news : List (Addr × Obj)} {s : Shared} {Q E : Value → Shared → Prop}
theorem ln_F2_1 : True := by
  try walk1
  k_with "F2 k:k_room" => k_extra "ln 0"
  k_with "F2 k:k_enter" => k_extra "ln 1"
  k_with "F2 my_mem" => k_extra "ln 2"
  k_with "F2 k:k_mem" => k_extra "ln 3"
  k_with "F2 my_split" => k_extra "ln 4"
  k_with "F2 my_ltf" => k_extra "ln 5"
  k_with "F2 k:k_ne" => k_extra "ln 6"
  k_with "F2 my_reord" => k_extra "ln 7"
  k_with "F2 my_all" => k_extra "ln 8"
  k_with "F2 k:k_all" => k_extra "ln 9"
  k_with "F2 call builtin:len" => k_extra "ln 10"
  k_with "F2 subscriptTail" => k_extra "ln 11"
  k_with "F2 subscriptTail Name Name ref int" => k_extra "ln 11"
  k_with "F2 subscriptTail" => k_extra "ln 12"
  k_with "F2 subscriptTail Name Slice ref ref" => k_extra "ln 12"
  k_with "F2 call builtin:sum" => k_extra "ln 13"
  k_with "F2 my_rows" => k_extra "ln 15"
  k_with "F2 my_room" => k_extra "ln 16"
  k_with "F2 my_ctx" => k_extra "ln 17"
  k_with "F2 my_ctx0" => k_extra "ln 18"
  k_with "F2 my_store" => k_extra "ln 38"
  k_with "F2 my_clock" => k_extra "ln 39"
  k_with "F2 getAttr ref" => k_extra "ln 40"
  k_with "F2 getAttr ref" => k_extra "ln 41"
  k_with "F2 getAttr ref" => k_extra "ln 42"
  k_with "F2 getMethod ref" => k_extra "ln 43"
  k_with "F2 getMethod ref" => k_extra "ln 44"
  k_with "F2 getMethod ref" => k_extra "ln 45"
  k_with "F2 getMethod ref" => k_extra "ln 46"
  k_with "F2 getMethod ref" => k_extra "ln 47"
  k_with "F2 call ref" => k_extra "ln 48"
  k_with "F2 getMethod ref" => k_extra "ln 49"
  k_with "F2 getMethod ref" => k_extra "ln 50"
  k_with "F2 callWith ref" => k_extra "ln 51"
  k_with "F2 my_val" => k_extra "ln 52"
  k_with "F2 my_size" => k_extra "ln 53"
  k_with "F2 call builtin:dict.get" => k_extra "ln 54"
  k_with "F2 call builtin:dict.pop" => k_extra "ln 55"
  k_with "F2 subscriptTail" => k_extra "ln 56"
  k_with "F2 subscriptTail Attribute Name Name ref str" => k_extra "ln 56"
  k_with "F2 setItem ref str" => k_extra "ln 57"
  k_with "F2 my_item" => k_extra "ln 27"
  k_with "F2 getAttr ref" => k_extra "ln 28"
  k_with "F2 getAttr ref" => k_extra "ln 29"
  k_with "F2 getAttr ref" => k_extra "ln 30"
  k_with "F2 getAttr ref" => k_extra "ln 31"
  k_with "F2 getAttr ref" => k_extra "ln 32"
  k_with "F2 getAttr ref" => k_extra "ln 33"
  k_with "F2 getMethod ref" => k_extra "ln 34"
  k_with "F2 getMethod ref" => k_extra "ln 35"
  k_with "F2 my_lim" => k_extra "ln 90"
  k_with "F2 call ref" => k_extra "ln 92"
  k_with "F2 call ref" => k_extra "ln 93"
  k_with "F2 getAttr ref" => k_extra "ln 99"
  k_with "F2 my_off" => k_extra "ln 58"
  k_with "F2 call ref" => k_extra "ln 59"
  k_with "ln 100" => ((k_here; (with_reducible show wpAny _ _ (getMethod (Value.ref (Z.self _)) (Str.ofString "get_expiry") _) _ _ _); k_dflt (refine' st_m_gex ?z100xF ?z100xX ?z100xN ?z100xi ?_; (case z100xF => k_asm); (case z100xX => k_asm); (case z100xN => k_asm); (case z100xi => walk_at "my_store"); k_whole)))
  k_with "F2 getMethod ref" => k_extra "ln 100"
  k_with "ln 101" => ((k_here; (with_reducible show wpAny _ _ (call (Value.ref 614) _ _) _ _ _); k_dflt (refine' incr_ok ?zcB ?zcF ?zcX ?zcN ?zcT ?zchk ?zcdp ?zcun ?z101xn ?z101xa1 ?z101xa2 ?z101xa3 ?z101xl1 ?z101xl2 ?z101xS ?z101xC ?z101xdS ?z101xdE ?z101xf ?z101xp ?_; (walk_at "my_ctx"); (case z101xn => exact rfl); (case z101xa1 => k_ne); (case z101xa2 => walk_at "my_off"); (case z101xa3 => walk_at "my_off"); (case z101xl1 => k_asm); (case z101xl2 => k_asm); (case z101xS => walk_at "my_store"); (case z101xC => walk_at "my_clock"); (case z101xdS => k_asm); (case z101xdE => k_asm); (case z101xf => k_asm); (case z101xp => assumption); k_whole); intro h'q tk'q u'q oS'q oE'q kS'q kE'q F'q N'q hd1'q hd2'q hf'q))
  k_with "F2 call ref" => k_extra "ln 101"
  k_with "ln 102" => ((k_here; (with_reducible show wpAny _ _ (call (Value.ref 651) _) _ _ _); k_dflt (refine' gex_ok ?zcB ?zcF ?zcX ?zcN ?zcT ?zchk ?zcdp ?zcun ?z102xn ?z102xl2 ?z102xS ?z102xC ?z102xdE ?z102xf ?_; (walk_at "my_ctx"); (case z102xn => exact rfl); (case z102xl2 => k_asm); (case z102xS => walk_at "my_store"); (case z102xC => walk_at "my_clock"); (case z102xdE => assumption); (case z102xf => assumption); k_whole); intro h'q tk'q x'q u'q F'q N'q))
  k_with "F2 call ref" => k_extra "ln 102"
  k_with "F2 call ref" => k_extra "ln 98"
  trivial

def FixRet (h₀ : Heap) (L : Addr) (m : Str → Option Value) (prog : Program) (w : World) (z : Z) (oEv oT oN : Obj) (rest : List (Addr × Obj)) (key : Str) (fx : Option (Int × Int)) (v : Value) (s : Shared) (Q : Value → Shared → Prop) : Prop :=
  ∀ h' tk' oSt' oEx' kS' kE', Fr h₀ L h' m → News h₀ L h' ((z.st, oSt') :: (z.ex, oEx') :: (z.ev, oEv) :: (653, oT) :: (z.nw, oN) :: rest) → oSt'.IsDictOf (strKind prog w) kS' → oEx'.IsDictOf (strKind prog w) kE' → FX key kS' kE' fx → Q v { s with heap := h', toks := tk' }
def FixStat (h₀ : Heap) (L : Addr) (m : Str → Option Value) (prog : Program) (w : World) (z : Z) (oEv oT oN : Obj) (rest : List (Addr × Obj)) (key : Str) (fx : Option (Int × Int)) (left : Int) (s : Shared) (Q : Value → Shared → Prop) : Prop :=
  ∀ h' tk' oSt' oEx' kS' kE' r d x t u, Fr h₀ L h' m → News h₀ L h' ((r, wsObj #[.int x t, .int left u] d 0) :: (d, emptyDict) :: (z.st, oSt') :: (z.ex, oEx') :: (z.ev, oEv) :: (653, oT) :: (z.nw, oN) :: rest) → oSt'.IsDictOf (strKind prog w) kS' → oEx'.IsDictOf (strKind prog w) kE' → FX key kS' kE' fx → Q (.ref r) { s with heap := h', toks := tk' }
set_option maxHeartbeats 8000000 in
theorem ftest_ok (B : Below A₀ base outer h₀) (F : Fr h₀ L s.heap m) (X : (kd.heap_1 w.params).In h₀) (N : News h₀ L s.heap news) (T : Top p loose mean mg mb h₀) (hk : cs.kind = .function) (hdp : dp ≤ 920) (hun : un ≤ 9320)
   {z : Z} {oSt oEx oEv oT oN : Obj} {rest : List (Addr × Obj)} {kS kE : List (Str × Value)} {fx : Option (Int × Int)} {tk3 t1 t2 : Tok} {nn : Nat} {now amt c sec mul n : Int} {gm it C g tn : Addr} {nm : Str}
   (hn : news = (z.st, oSt) :: (z.ex, oEx) :: (z.ev, oEv) :: (653, oT) :: (z.nw, oN) :: rest) (hz : Okz z) (ho : Offz z rest)
   (hS : StoreIn w rest z) (hC : ClockIn ((z.nw, oN) :: rest) z.clk now) (dS : oSt.IsDictOf (strKind prog w) kS) (dE : oEx.IsDictOf (strKind prog w) kE)
   (hG : LimIn w rest z 241 gm) (hi : ItemIn w rest it C amt mul) (hK : Kind C g sec nm) (hm : 1 ≤ mul) (hm' : mul ≤ 5) (ha : 1 ≤ amt) (ha' : amt ≤ 9) (hn0 : 0 ≤ n) (hn1 : n ≤ 63)
   (hnm : (tn, ({ cls := .type "tuple", data := .seq #[.str (Str.ofString "ann") t1, .int n t2] nn } : Obj)) ∈ rest)
   (hf : FX (keyStr n amt mul nm) kS kE fx)
   (ret : FixRet h₀ L m prog w z oEv oT oN rest (keyStr n amt mul nm) (live now fx) (.bool (decide (tot (live now fx) < amt - c + 1))) s Q) :
   wpAny (model prog w) (ktrTop dp un gd cn cs L a ccd cl outer) (call (.ref 229) [.ref gm, .ref it, .ref tn, .int c tk3]) Q E s := by
  subst hn
  obtain ⟨a1, a2, a3, a4, a5, a6, b1, b2, b3, b4, l1, l2, l3⟩ := hz
  obtain ⟨o1, o2, o3, o4, o5⟩ := id ho
  k_steps
  exact ret _ _ _ _ _ _ (by assumption) (by assumption) (by assumption) (by assumption) (by assumption)
set_option maxHeartbeats 8000000 in
theorem fhit_ok (B : Below A₀ base outer h₀) (F : Fr h₀ L s.heap m) (X : (kd.heap_1 w.params).In h₀) (N : News h₀ L s.heap news) (T : Top p loose mean mg mb h₀) (hk : cs.kind = .function) (hdp : dp ≤ 920) (hun : un ≤ 9320)
   {z : Z} {oSt oEx oEv oT oN : Obj} {rest : List (Addr × Obj)} {kS kE : List (Str × Value)} {fx : Option (Int × Int)} {tk3 t1 t2 : Tok} {nn : Nat} {now amt c sec mul n : Int} {gm it C g tn : Addr} {nm : Str}
   (hn : news = (z.st, oSt) :: (z.ex, oEx) :: (z.ev, oEv) :: (653, oT) :: (z.nw, oN) :: rest) (hz : Okz z) (ho : Offz z rest)
   (hS : StoreIn w rest z) (hC : ClockIn ((z.nw, oN) :: rest) z.clk now) (dS : oSt.IsDictOf (strKind prog w) kS) (dE : oEx.IsDictOf (strKind prog w) kE)
   (hG : LimIn w rest z 241 gm) (hi : ItemIn w rest it C amt mul) (hK : Kind C g sec nm) (hm : 1 ≤ mul) (hm' : mul ≤ 5) (ha : 1 ≤ amt) (ha' : amt ≤ 9) (hn0 : 0 ≤ n) (hn1 : n ≤ 63)
   (hnm : (tn, ({ cls := .type "tuple", data := .seq #[.str (Str.ofString "ann") t1, .int n t2] nn } : Obj)) ∈ rest)
   (hf : FX (keyStr n amt mul nm) kS kE fx) (hpos : ∀ t e, live now fx = some (t, e) → 1 ≤ t)
   (ret : FixRet h₀ L m prog w z oEv oT oN rest (keyStr n amt mul nm) (bump now (sec * mul) c (live now fx)) (.bool (decide (tot (bump now (sec * mul) c (live now fx)) ≤ amt))) s Q) :
   wpAny (model prog w) (ktrTop dp un gd cn cs L a ccd cl outer) (call (.ref 220) [.ref gm, .ref it, .ref tn, .int c tk3]) Q E s := by
  subst hn
  obtain ⟨a1, a2, a3, a4, a5, a6, b1, b2, b3, b4, l1, l2, l3⟩ := hz
  obtain ⟨o1, o2, o3, o4, o5⟩ := id ho
  k_steps
  exact ret _ _ _ _ _ _ (by assumption) (by assumption) (by assumption) (by assumption) (by assumption)
set_option maxHeartbeats 8000000 in
theorem fstats_ok (B : Below A₀ base outer h₀) (F : Fr h₀ L s.heap m) (X : (kd.heap_1 w.params).In h₀) (N : News h₀ L s.heap news) (T : Top p loose mean mg mb h₀) (hk : cs.kind = .function) (hdp : dp ≤ 920) (hun : un ≤ 9320)
   {z : Z} {oSt oEx oEv oT oN : Obj} {rest : List (Addr × Obj)} {kS kE : List (Str × Value)} {fx : Option (Int × Int)} {t1 t2 : Tok} {nn : Nat} {now amt sec mul n : Int} {gm it C g tn : Addr} {nm : Str}
   (hn : news = (z.st, oSt) :: (z.ex, oEx) :: (z.ev, oEv) :: (653, oT) :: (z.nw, oN) :: rest) (hz : Okz z) (ho : Offz z rest)
   (hS : StoreIn w rest z) (hC : ClockIn ((z.nw, oN) :: rest) z.clk now) (dS : oSt.IsDictOf (strKind prog w) kS) (dE : oEx.IsDictOf (strKind prog w) kE)
   (hG : LimIn w rest z 241 gm) (hi : ItemIn w rest it C amt mul) (hK : Kind C g sec nm) (hm : 1 ≤ mul) (hm' : mul ≤ 5) (ha : 1 ≤ amt) (ha' : amt ≤ 9) (hn0 : 0 ≤ n) (hn1 : n ≤ 63)
   (hnm : (tn, ({ cls := .type "tuple", data := .seq #[.str (Str.ofString "ann") t1, .int n t2] nn } : Obj)) ∈ rest)
   (hf : FX (keyStr n amt mul nm) kS kE fx)
   (ret : FixStat h₀ L m prog w z oEv oT oN rest (keyStr n amt mul nm) (live now fx) (if amt - tot (live now fx) > 0 then amt - tot (live now fx) else 0) s Q) :
   wpAny (model prog w) (ktrTop dp un gd cn cs L a ccd cl outer) (call (.ref 238) [.ref gm, .ref it, .ref tn]) Q E s := by
  subst hn
  obtain ⟨a1, a2, a3, a4, a5, a6, b1, b2, b3, b4, l1, l2, l3⟩ := hz
  obtain ⟨o1, o2, o3, o4, o5⟩ := id ho
  k_steps
  exact ret _ _ _ _ _ _ _ _ _ _ _ (by assumption) (by assumption) (by assumption) (by assumption) (by assumption)
end
end
section
open Lean PySem PySem.Calls PySem.W PyProof.Rows PyProof.V PySem.Spec PyProof.Rows.LCg
local macro_rules | `(tactic| walk_at $s:str) => `(tactic| k_extra $(Lean.Syntax.mkStrLit ("L1 " ++ s.getString)))
section
variable {prog : Program} {w : World} {p : Program} {loose : List Str} {mean : ExcName → Option Value} {mg mb : Str → Option Value} {dp un : Nat} {gd : Option (List Code)} {cn : Str} {cs : Scope} {a : Addr} {ccd : Value} {cl : List (Str × Addr)} {outer : List Env} {A₀ : Around} {base h₀ : Heap} {L : Addr} {m : Str → Option Value} {news : List (Addr × Obj)} {s : Shared} {Q E : Value → Shared → Prop}
theorem ln_L1_1 : True := by
  try walk1
  k_with "L1 k:k_room" => k_extra "ln 0"
  k_with "L1 k:k_enter" => k_extra "ln 1"
  k_with "L1 my_mem" => k_extra "ln 2"
  k_with "L1 k:k_mem" => k_extra "ln 3"
  k_with "L1 my_split" => k_extra "ln 4"
  k_with "L1 my_ltf" => k_extra "ln 5"
  k_with "L1 k:k_ne" => k_extra "ln 6"
  k_with "L1 my_reord" => k_extra "ln 7"
  k_with "L1 my_all" => k_extra "ln 8"
  k_with "L1 k:k_all" => k_extra "ln 9"
  k_with "L1 call builtin:len" => k_extra "ln 10"
  k_with "L1 subscriptTail" => k_extra "ln 11"
  k_with "L1 subscriptTail Name Name ref int" => k_extra "ln 11"
  k_with "L1 subscriptTail" => k_extra "ln 12"
  k_with "L1 subscriptTail Name Slice ref ref" => k_extra "ln 12"
  k_with "L1 call builtin:sum" => k_extra "ln 13"
  k_with "L1 my_rows" => k_extra "ln 15"
  k_with "L1 my_room" => k_extra "ln 16"
  k_with "L1 my_ctx" => k_extra "ln 17"
  k_with "L1 my_ctx0" => k_extra "ln 18"
  trivial

theorem truthy_pos {A : Around} {a : Int} {t : Tok} {Q : Bool → Shared → Prop} (h0 : 1 ≤ a) (h : Q true s) : wpAny (model prog w) A (truthy (.int a t)) Q E s := by
  refine truthy_int ?_
  rw [show (a != 0) = true from by rw [bne_iff_ne]; omega]; exact h
theorem ln_L1_2 : True := by
  k_with "ln 103" => ((k_here; k_dflt (refine' truthy_pos ?z103xh ?_; (case z103xh => assumption); k_whole)))
  k_with "L1 truthy int" => k_extra "ln 103"
  trivial

theorem lt_of_all {d : Addr} : ∀ {l : List (Addr × Obj)}, AllLt d l → ∀ p ∈ l, p.1 < d
  | [], _, _, h => nomatch h
  | _ :: _, ⟨a, b⟩, p, h => (List.mem_cons.mp h).elim (fun e => e ▸ a) (lt_of_all b p)
theorem all_trans {n : List (Addr × Obj)} {d x : Addr} (h : ∀ p ∈ n, p.1 < d) (k : d < x) : ∀ p ∈ n, p.1 < x := fun p hp => Nat.lt_trans (h p hp) k
abbrev itemDict (w : World) (ka kb kc ta tb : Tok) (amt mul : Int) : Obj := dictOf [ent w "namespace" ka (.str (Str.ofString "LIMITER") 718), ent w "amount" kb (.int amt ta), ent w "multiples" kc (.int mul tb)] 3
def LimRet (h₀ : Heap) (L : Addr) (m : Str → Option Value) (w : World) (news : List (Addr × Obj)) (amt mul : Int) (s : Shared) (Q : Value → Shared → Prop) : Prop :=
  ∀ h' tk' r it d C g sec nm n t W u ka kb kc ta tb, Kind C g sec nm → W = sec * mul → Fr h₀ L h' m → News h₀ L h' ((r, ({ cls := .type "tuple", data := .seq #[.ref it, .int amt t, .int W u] n } : Obj)) :: (it, instObj C d) :: (d, itemDict w ka kb kc ta tb amt mul) :: news) →
    (∀ p ∈ news, p.1 < d) → (∀ p ∈ news, p.1 < it) → (∀ p ∈ news, p.1 < r) → Q (.ref r) { s with heap := h', toks := tk' }
/-- a class of limits: made by object.__new__, with the one __init__, its attributes plain -/
structure ItemCls (K : Frag) (C : Addr) : Prop where
  hm : makesIn K C = true
  hi : findIn K (.ref C) "__init__" = some (some (.ref 379))
  hs : findIn K (.ref C) "__setattr__" = some (some (.builtin "object.__setattr__"))
  hp : plainOver K C = true
  t1 : takerIn K C "namespace" = some none
  t2 : takerIn K C "amount" = some none
  t3 : takerIn K C "multiples" = some none
  hh : hasDictIn K C = true
theorem item_cls {C g : Addr} {sec : Int} {nm : Str} (h : Kind C g sec nm) : ItemCls (kd.heap_1 w.params) C := by
  cases h <;> exact ⟨by kernel_rfl, by kernel_rfl, by kernel_rfl, by kernel_rfl, by kernel_rfl, by kernel_rfl, by kernel_rfl, by kernel_rfl⟩
section
local macro_rules | `(tactic| k_is) => `(tactic| with_reducible assumption)
set_option maxHeartbeats 8000000 in
theorem item_new_ok (B : Below A₀ base outer h₀) (F : Fr h₀ L s.heap m) (X : (kd.heap_1 w.params).In h₀) (N : News h₀ L s.heap news) (T : Top p loose mean mg mb h₀) (hk : cs.kind = .function) (hdp : dp ≤ 930) (hun : un ≤ 9380) {C : Addr} {amt mul : Int} {t1 t2 : Tok} (hC : ItemCls (kd.heap_1 w.params) C) (hm : 1 ≤ mul)
   (ret : ∀ h' tk' it d ka kb kc ta tb, Fr h₀ L h' m → News h₀ L h' ((it, instObj C d) :: (d, itemDict w ka kb kc ta tb amt mul) :: news) → (∀ p ∈ news, p.1 < d) → d < it → Q (.ref it) { s with heap := h', toks := tk' }) :
   wpAny (model prog w) (ktrTop dp un gd cn cs L a ccd cl outer) (call (.ref C) [.int amt t1, .int mul t2]) Q E s := by
  refine call_cls F X N hC.hm hC.hi (by kernel_rfl) ?_
  obtain ⟨_, _, c1, c2, c3, c4, c5, c6⟩ := hC
  intro x d h' F1 N1 l1 l2
  have l3 := allLt_of l1
  k_dflt k_enter
  k_steps
  exact ret _ _ _ _ _ _ _ _ _ (by assumption) (by assumption) l1 l2
end
theorem ln_L1_3 : True := by
  k_with "ln 104" => ((k_here; (with_reducible show wpAny _ _ (call (Value.ref _) [Value.int _ _, Value.int _ _] _) _ _ _); k_dflt (refine' item_new_ok ?zcB ?zcF ?zcX ?zcN ?zcT ?zchk ?zcdp ?zcun ?z104xc ?z104xm ?_; (walk_at "my_ctx"); (case z104xm => assumption); (case z104xc => exact item_cls (by assumption)); k_whole); intro h'q tk'q it'q d'q ka'q kb'q kc'q ta'q tb'q F'q N'q l1'q l2'q))
  k_with "L1 call ref cons nil" => k_extra "ln 104"
  trivial

set_option maxHeartbeats 8000000 in
theorem lim_ok (B : Below A₀ base outer h₀) (F : Fr h₀ L s.heap m) (X : (kd.heap_1 w.params).In h₀) (N : News h₀ L s.heap news) (T : Top p loose mean mg mb h₀) (hk : cs.kind = .function) (hdp : dp ≤ 920) (hun : un ≤ 9320) {k amt mul : Int} {t0 t1 t2 : Tok} (k0 : 0 ≤ k) (k5 : k ≤ 5) (ha : 1 ≤ amt) (ha' : amt ≤ 9) (hm : 1 ≤ mul) (hm' : mul ≤ 5)
   (ret : LimRet h₀ L m w news amt mul s Q) :
   wpAny (model prog w) (ktrTop dp un gd cn cs L a ccd cl outer) (call (.ref 713) [.int k t0, .int amt t1, .int mul t2]) Q E s := by
  obtain rfl | rfl | rfl | rfl | rfl | rfl : k = 0 ∨ k = 1 ∨ k = 2 ∨ k = 3 ∨ k = 4 ∨ k = 5 := by omega
  · have hK := Kind.second
    k_steps
    rename News h₀ _ _ _ => kN
    exact ret _ _ _ _ _ _ _ _ _ _ _ _ _ _ _ _ _ _ hK (by first | omega | rfl) (by assumption) kN (by assumption) (all_trans (by assumption) (by assumption)) (by first | assumption | exact lt_of_all (by walk_at "my_split"; assumption))
  · have hK := Kind.minute
    k_steps
    rename News h₀ _ _ _ => kN
    exact ret _ _ _ _ _ _ _ _ _ _ _ _ _ _ _ _ _ _ hK (by first | omega | rfl) (by assumption) kN (by assumption) (all_trans (by assumption) (by assumption)) (by first | assumption | exact lt_of_all (by walk_at "my_split"; assumption))
  · have hK := Kind.hour
    k_steps
    rename News h₀ _ _ _ => kN
    exact ret _ _ _ _ _ _ _ _ _ _ _ _ _ _ _ _ _ _ hK (by first | omega | rfl) (by assumption) kN (by assumption) (all_trans (by assumption) (by assumption)) (by first | assumption | exact lt_of_all (by walk_at "my_split"; assumption))
  · have hK := Kind.day
    k_steps
    rename News h₀ _ _ _ => kN
    exact ret _ _ _ _ _ _ _ _ _ _ _ _ _ _ _ _ _ _ hK (by first | omega | rfl) (by assumption) kN (by assumption) (all_trans (by assumption) (by assumption)) (by first | assumption | exact lt_of_all (by walk_at "my_split"; assumption))
  · have hK := Kind.month
    k_steps
    rename News h₀ _ _ _ => kN
    exact ret _ _ _ _ _ _ _ _ _ _ _ _ _ _ _ _ _ _ hK (by first | omega | rfl) (by assumption) kN (by assumption) (all_trans (by assumption) (by assumption)) (by first | assumption | exact lt_of_all (by walk_at "my_split"; assumption))
  · have hK := Kind.year
    k_steps
    rename News h₀ _ _ _ => kN
    exact ret _ _ _ _ _ _ _ _ _ _ _ _ _ _ _ _ _ _ hK (by first | omega | rfl) (by assumption) kN (by assumption) (all_trans (by assumption) (by assumption)) (by first | assumption | exact lt_of_all (by walk_at "my_split"; assumption))
end
end
section
open Lean PySem PySem.Calls PySem.W PyProof.Rows PyProof.V PySem.Spec PyProof.Rows.LCg
local macro_rules | `(tactic| walk_at $s:str) => `(tactic| k_extra $(Lean.Syntax.mkStrLit ("G2 " ++ s.getString)))
local macro_rules | `(tactic| walk_at "none") => `(tactic| fail)
section
variable {prog : Program} {w : World} {p : Program} {loose : List Str} {mean : ExcName → Option Value} {mg mb : Str → Option Value} {dp un : Nat} {gd : Option (List Code)} {cn : Str} {cs : Scope} {a : Addr} {ccd : Value} {cl : List (Str × Addr)} {outer : List Env} {A₀ : Around} {base h₀ : Heap} {L : Addr} {m : Str → Option Value} {news : List (Addr × Obj)} {s : Shared} {Q E : Value → Shared → Prop}
theorem ln_G2_1 : True := by
  try walk1
  k_with "G2 k:k_room" => k_extra "ln 0"
  k_with "G2 k:k_enter" => k_extra "ln 1"
  k_with "G2 my_mem" => k_extra "ln 2"
  k_with "G2 k:k_mem" => k_extra "ln 3"
  k_with "G2 my_split" => k_extra "ln 4"
  k_with "G2 my_ltf" => k_extra "ln 5"
  k_with "G2 k:k_ne" => k_extra "ln 6"
  k_with "G2 my_reord" => k_extra "ln 7"
  k_with "G2 my_all" => k_extra "ln 8"
  k_with "G2 k:k_all" => k_extra "ln 9"
  k_with "G2 call builtin:len" => k_extra "ln 10"
  k_with "G2 subscriptTail" => k_extra "ln 11"
  k_with "G2 subscriptTail Name Name ref int" => k_extra "ln 11"
  k_with "G2 subscriptTail" => k_extra "ln 12"
  k_with "G2 subscriptTail Name Slice ref ref" => k_extra "ln 12"
  k_with "G2 call builtin:sum" => k_extra "ln 13"
  trivial


structure StoreSt (prog : Program) (w : World) (z : Z) (oSt oEx oEv oN : Obj) (ps : Array Value) (rest : List (Addr × Obj)) (k0 k1 k2 : Str) (e0 e1 : List Int) (fx : Option (Int × Int)) (cap : Nat) (now : Int) : Prop where
  hz : Okz z
  ho : Offz z rest
  hS : StoreIn w rest z
  hC : ClockIn ((z.nw, oN) :: rest) z.clk now
  ht : TabOk rest ps
  ds : ∃ kS kE, oSt.IsDictOf (strKind prog w) kS ∧ oEx.IsDictOf (strKind prog w) kE ∧ FX k2 kS kE fx
  dv : ∃ kV, oEv.IsDictOf (strKind prog w) kV ∧ kV.length ≤ cap ∧ EvAt w rest kV k0 e0 ∧ EvAt w rest kV k1 e1
section
variable {z : Z} {oSt oEx oEv oN : Obj} {ps : Array Value} {rest rest' : List (Addr × Obj)} {k0 k1 k2 : Str} {e0 e1 : List Int} {fx : Option (Int × Int)} {cap : Nat} {now : Int}
theorem StoreSt.mono (S : StoreSt prog w z oSt oEx oEv oN ps rest k0 k1 k2 e0 e1 fx cap now) (hs : ∀ p ∈ rest, p ∈ rest') (ho : Offz z rest') : StoreSt prog w z oSt oEx oEv oN ps rest' k0 k1 k2 e0 e1 fx cap now :=
  ⟨S.hz, ho, S.hS.mono hs, S.hC.mono (fun p hp => (List.mem_cons.mp hp).elim (fun e => e ▸ .head _) fun h => .tail _ (hs p h)), S.ht.mono hs, S.ds, let ⟨kV, a, b, c, d⟩ := S.dv; ⟨kV, a, b, c.mono hs, d.mono hs⟩⟩
theorem StoreSt.swap (S : StoreSt prog w z oSt oEx oEv oN ps rest k0 k1 k2 e0 e1 fx cap now) : StoreSt prog w z oSt oEx oEv oN ps rest k1 k0 k2 e1 e0 fx cap now :=
  ⟨S.hz, S.ho, S.hS, S.hC, S.ht, S.ds, let ⟨kV, a, b, c, d⟩ := S.dv; ⟨kV, a, b, d, c⟩⟩
theorem EvAt.move {kV kV' : List (Str × Value)} {key : Str} {evs : List Int} (h : EvAt w rest kV key evs) (hs : ∀ p ∈ rest, p ∈ rest') (e : valueAt kV' key = valueAt kV key) : EvAt w rest' kV' key evs := by
  rcases h with ⟨h1, h2⟩ | ⟨l, vs, k, h1, h2, h3⟩
  · exact .inl ⟨e.trans h1, h2⟩
  · exact .inr ⟨l, vs, k, e.trans h1, hs _ h2, h3.mono hs⟩
theorem sub_ext {ext : List (Addr × Obj)} : ∀ p ∈ rest, p ∈ ext ++ rest := fun _ h => mem_right h
end
theorem Offz.ext2 {z : Z} {ext rest r2 : List (Addr × Obj)} {oSt oEx oEv oT oN : Obj} (h : Offz z rest) (k : Above ext ((z.st, oSt) :: (z.ex, oEx) :: (z.ev, oEv) :: (653, oT) :: (z.nw, oN) :: r2)) : Offz z (ext ++ rest) :=
  ⟨off_app (k.off (.head _)) h.a1, off_app (k.off (.tail _ (.head _))) h.a2, off_app (k.off (.tail _ (.tail _ (.head _)))) h.a3, off_app (k.off (.tail _ (.tail _ (.tail _ (.head _))))) h.a4, off_app (k.off (.tail _ (.tail _ (.tail _ (.tail _ (.head _)))))) h.a5⟩
theorem sub_fr {fr rest : List (Addr × Obj)} : ∀ p ∈ rest, p ∈ fr ++ rest := fun _ h => mem_right h
/-- one of the law's limits -/
def LimOne (w : World) (rest : List (Addr × Obj)) (n : Int) (it : Addr) (amt W : Int) (key : Str) : Prop :=
  ∃ C g sec nm mul, ItemIn w rest it C amt mul ∧ Kind C g sec nm ∧ 1 ≤ mul ∧ mul ≤ 5 ∧ 1 ≤ amt ∧ amt ≤ 9 ∧ W = sec * mul ∧ key = keyStr n amt mul nm
theorem LimOne.mono {w : World} {r r' : List (Addr × Obj)} {n : Int} {it : Addr} {amt W : Int} {key : Str} (h : LimOne w r n it amt W key) (hs : ∀ p ∈ r, p ∈ r') : LimOne w r' n it amt W key :=
  let ⟨C, g, sec, nm, mul, a, b⟩ := h; ⟨C, g, sec, nm, mul, a.mono hs, b⟩
def NamesAt (rest : List (Addr × Obj)) (tn : Addr) (n : Int) : Prop :=
  0 ≤ n ∧ n ≤ 63 ∧ ∃ t1 t2 nn, (tn, ({ cls := .type "tuple", data := .seq #[.str (Str.ofString "ann") t1, .int n t2] nn } : Obj)) ∈ rest
theorem NamesAt.mono {r r' : List (Addr × Obj)} {tn : Addr} {n : Int} (h : NamesAt r tn n) (hs : ∀ p ∈ r, p ∈ r') : NamesAt r' tn n :=
  let ⟨a, b, t1, t2, nn, c⟩ := h; ⟨a, b, t1, t2, nn, hs _ c⟩
section
variable {z : Z} {oSt oEx oEv oN : Obj} {ps : Array Value} {fr rest : List (Addr × Obj)} {k0 k1 k2 : Str} {e0 e1 : List Int} {fx : Option (Int × Int)} {cap : Nat} {now : Int} {gm it tn : Addr} {amt W c n : Int} {key : Str} {t9 : Tok}
def LookR (h₀ : Heap) (L : Addr) (m : Str → Option Value) (prog : Program) (w : World) (z : Z) (oSt oEx oEv oN : Obj) (ps : Array Value) (fr rest : List (Addr × Obj)) (k0 k1 k2 : Str) (e0 e1 : List Int) (fx : Option (Int × Int)) (cap : Nat) (now : Int) (v : Value) (s : Shared) (Q : Value → Shared → Prop) : Prop :=
  ∀ h' tk' ps' ext, Fr h₀ L h' m → News h₀ L h' ((z.st, oSt) :: (z.ex, oEx) :: (z.ev, oEv) :: (653, tabObj ps') :: (z.nw, oN) :: (ext ++ (fr ++ rest))) →
    Above ext ((z.st, oSt) :: (z.ex, oEx) :: (z.ev, oEv) :: (653, tabObj ps) :: (z.nw, oN) :: (fr ++ rest)) → StoreSt prog w z oSt oEx oEv oN ps' (ext ++ rest) k0 k1 k2 e0 e1 fx cap now → Q v { s with heap := h', toks := tk' }
theorem gtest_m (B : Below A₀ base outer h₀) (F : Fr h₀ L s.heap m) (X : (kd.heap_1 w.params).In h₀) (N : News h₀ L s.heap news) (T : Top p loose mean mg mb h₀) (hk : cs.kind = .function) (hdp : dp ≤ 920) (hun : un ≤ 9320) (hn : news = (z.st, oSt) :: (z.ex, oEx) :: (z.ev, oEv) :: (653, tabObj ps) :: (z.nw, oN) :: (fr ++ rest)) (hof : Offz z (fr ++ rest)) (S : StoreSt prog w z oSt oEx oEv oN ps rest k0 k1 k2 e0 e1 fx cap now)
   (hG : LimIn w rest z 202 gm) (I : LimOne w rest n it amt W k0) (hnm : NamesAt rest tn n) (hd : Desc e0) (hb : e0.length ≤ 1000)
   (ret : LookR h₀ L m prog w z oSt oEx oEv oN ps fr rest k0 k1 k2 e0 e1 fx cap now (.bool (decide ((idx (now - W) e0 : Int) ≤ amt - c))) s Q) :
   wpAny (model prog w) (ktrTop dp un gd cn cs L a ccd cl outer) (call (.ref 190) [.ref gm, .ref it, .ref tn, .int c t9]) Q E s := by
  obtain ⟨C, g, sec, nm, mul, hi, hK, hm, hm', ha, ha', rfl, rfl⟩ := I
  obtain ⟨n0, n1, t1, t2, nn, hnm⟩ := hnm
  have S' := S.mono sub_fr hof
  obtain ⟨kV, dV, hl, v0, v1⟩ := S.dv
  refine mtest_ok B F X N T hk hdp hun hn S.hz hof S'.hS S'.hC S'.ht dV (hG.mono sub_fr) (hi.mono sub_fr) hK hm hm' ha ha' n0 n1 (sub_fr _ hnm) (v0.mono sub_fr) hd (by omega) fun h' tk' ps' ext F' N' ab tb => ?_
  exact ret _ _ _ _ F' N' ab ⟨S.hz, S.ho.ext2 ab, S.hS.mono sub_ext, (S.mono sub_ext (S.ho.ext2 ab)).hC, tb _ S.ht, S.ds, kV, dV, hl, v0.mono sub_ext, v1.mono sub_ext⟩
theorem gtest_m1 (B : Below A₀ base outer h₀) (F : Fr h₀ L s.heap m) (X : (kd.heap_1 w.params).In h₀) (N : News h₀ L s.heap news) (T : Top p loose mean mg mb h₀) (hk : cs.kind = .function) (hdp : dp ≤ 920) (hun : un ≤ 9320) (hn : news = (z.st, oSt) :: (z.ex, oEx) :: (z.ev, oEv) :: (653, tabObj ps) :: (z.nw, oN) :: (fr ++ rest)) (hof : Offz z (fr ++ rest)) (S : StoreSt prog w z oSt oEx oEv oN ps rest k0 k1 k2 e0 e1 fx cap now)
   (hG : LimIn w rest z 202 gm) (I : LimOne w rest n it amt W k1) (hnm : NamesAt rest tn n) (hd : Desc e1) (hb : e1.length ≤ 1000)
   (ret : LookR h₀ L m prog w z oSt oEx oEv oN ps fr rest k0 k1 k2 e0 e1 fx cap now (.bool (decide ((idx (now - W) e1 : Int) ≤ amt - c))) s Q) :
   wpAny (model prog w) (ktrTop dp un gd cn cs L a ccd cl outer) (call (.ref 190) [.ref gm, .ref it, .ref tn, .int c t9]) Q E s :=
  gtest_m B F X N T hk hdp hun hn hof S.swap hG I hnm hd hb fun h' tk' ps' ext F' N' ab S' => ret _ _ _ _ F' N' ab S'.swap
def HitR (h₀ : Heap) (L : Addr) (m : Str → Option Value) (prog : Program) (w : World) (z : Z) (oSt oEx oEv oN : Obj) (ps : Array Value) (fr rest : List (Addr × Obj)) (k0 k1 k2 : Str) (e0 e1 : List Int) (fx : Option (Int × Int)) (cap : Nat) (now : Int) (b : Bool) (s : Shared) (Q : Value → Shared → Prop) : Prop :=
  ∀ h' tk' oEv' ext, Fr h₀ L h' m → News h₀ L h' ((z.st, oSt) :: (z.ex, oEx) :: (z.ev, oEv') :: (653, tabObj ps) :: (z.nw, oN) :: (ext ++ (fr ++ rest))) →
    Above ext ((z.st, oSt) :: (z.ex, oEx) :: (z.ev, oEv) :: (653, tabObj ps) :: (z.nw, oN) :: (fr ++ rest)) → StoreSt prog w z oSt oEx oEv' oN ps (ext ++ rest) k0 k1 k2 e0 e1 fx cap now → Q (.bool b) { s with heap := h', toks := tk' }
theorem ghit_m (B : Below A₀ h₀ [] h₀) (F : Fr h₀ L s.heap m) (X : (kd.heap_1 w.params).In h₀) (N : News h₀ L s.heap news) (T : Top p loose mean mg mb h₀) (hk : cs.kind = .function) (hdp : dp ≤ 920) (hun : un ≤ 9300)
   (hn : news = (z.st, oSt) :: (z.ex, oEx) :: (z.ev, oEv) :: (653, tabObj ps) :: (z.nw, oN) :: (fr ++ rest)) (hof : Offz z (fr ++ rest)) (S : StoreSt prog w z oSt oEx oEv oN ps rest k0 k1 k2 e0 e1 fx cap now)
   (hG : LimIn w rest z 202 gm) (I : LimOne w rest n it amt W k0) (hnm : NamesAt rest tn n) (hb : e0.length ≤ 1000) (hcap : cap ≤ 1000) (hc : 1 ≤ c) (hne : k1 ≠ k0)
   (ret : HitR h₀ L m prog w z oSt oEx oEv oN ps fr rest k0 k1 k2 (acqR now W amt c e0).2 e1 fx (cap + 1) now (acqR now W amt c e0).1 s Q) :
   wpAny (model prog w) (ktrTop dp un gd cn cs L a ccd cl []) (call (.ref 181) [.ref gm, .ref it, .ref tn, .int c t9]) Q E s := by
  obtain ⟨C, g, sec, nm, mul, hi, hK, hm, hm', ha, ha', rfl, rfl⟩ := I
  obtain ⟨n0, n1, t1, t2, nn, hnm⟩ := hnm
  have S' := S.mono sub_fr hof
  obtain ⟨kV, dV, hl, v0, v1⟩ := S.dv
  refine mhit_ok B F X N T hk hdp hun hn S.hz hof S'.hS S'.hC dV (by omega) hc (hG.mono sub_fr) (hi.mono sub_fr) hK hm hm' ha ha' n0 n1 (sub_fr _ hnm) (v0.mono sub_fr) hb fun h' tk' oEv' kV' ext F' N' ab dV' hl' v0' hrest => ?_
  exact ret _ _ _ _ F' N' ab ⟨S.hz, S.ho.ext2 ab, S.hS.mono sub_ext, (S.mono sub_ext (S.ho.ext2 ab)).hC, S.ht.mono sub_ext, S.ds, kV', dV', by omega, v0' _ sub_fr v0, v1.move sub_ext (hrest _ hne)⟩
theorem ghit_m1 (B : Below A₀ h₀ [] h₀) (F : Fr h₀ L s.heap m) (X : (kd.heap_1 w.params).In h₀) (N : News h₀ L s.heap news) (T : Top p loose mean mg mb h₀) (hk : cs.kind = .function) (hdp : dp ≤ 920) (hun : un ≤ 9300)
   (hn : news = (z.st, oSt) :: (z.ex, oEx) :: (z.ev, oEv) :: (653, tabObj ps) :: (z.nw, oN) :: (fr ++ rest)) (hof : Offz z (fr ++ rest)) (S : StoreSt prog w z oSt oEx oEv oN ps rest k0 k1 k2 e0 e1 fx cap now)
   (hG : LimIn w rest z 202 gm) (I : LimOne w rest n it amt W k1) (hnm : NamesAt rest tn n) (hb : e1.length ≤ 1000) (hcap : cap ≤ 1000) (hc : 1 ≤ c) (hne : k0 ≠ k1)
   (ret : HitR h₀ L m prog w z oSt oEx oEv oN ps fr rest k0 k1 k2 e0 (acqR now W amt c e1).2 fx (cap + 1) now (acqR now W amt c e1).1 s Q) :
   wpAny (model prog w) (ktrTop dp un gd cn cs L a ccd cl []) (call (.ref 181) [.ref gm, .ref it, .ref tn, .int c t9]) Q E s :=
  ghit_m B F X N T hk hdp hun hn hof S.swap hG I hnm hb hcap hc hne fun h' tk' oEv' ext F' N' ab S' => ret _ _ _ _ F' N' ab S'.swap
def StatR (h₀ : Heap) (L : Addr) (m : Str → Option Value) (prog : Program) (w : World) (z : Z) (oSt oEx oEv oN : Obj) (ps : Array Value) (fr rest : List (Addr × Obj)) (k0 k1 k2 : Str) (e0 e1 : List Int) (fx : Option (Int × Int)) (cap : Nat) (now : Int) (left : Int) (s : Shared) (Q : Value → Shared → Prop) : Prop :=
  ∀ h' tk' ps' ext r d x t u, Fr h₀ L h' m → News h₀ L h' ((r, wsObj #[.int x t, .int left u] d 0) :: (d, emptyDict) :: (z.st, oSt) :: (z.ex, oEx) :: (z.ev, oEv) :: (653, tabObj ps') :: (z.nw, oN) :: (ext ++ (fr ++ rest))) →
    Above ext ((z.st, oSt) :: (z.ex, oEx) :: (z.ev, oEv) :: (653, tabObj ps) :: (z.nw, oN) :: (fr ++ rest)) → StoreSt prog w z oSt oEx oEv oN ps' (ext ++ rest) k0 k1 k2 e0 e1 fx cap now → Q (.ref r) { s with heap := h', toks := tk' }
theorem gstat_m (B : Below A₀ base outer h₀) (F : Fr h₀ L s.heap m) (X : (kd.heap_1 w.params).In h₀) (N : News h₀ L s.heap news) (T : Top p loose mean mg mb h₀) (hk : cs.kind = .function) (hdp : dp ≤ 920) (hun : un ≤ 9320) (hn : news = (z.st, oSt) :: (z.ex, oEx) :: (z.ev, oEv) :: (653, tabObj ps) :: (z.nw, oN) :: (fr ++ rest)) (hof : Offz z (fr ++ rest)) (S : StoreSt prog w z oSt oEx oEv oN ps rest k0 k1 k2 e0 e1 fx cap now)
   (hG : LimIn w rest z 202 gm) (I : LimOne w rest n it amt W k0) (hnm : NamesAt rest tn n) (hd : Desc e0) (hb : e0.length ≤ 1000)
   (ret : StatR h₀ L m prog w z oSt oEx oEv oN ps fr rest k0 k1 k2 e0 e1 fx cap now (amt - idx (now - W) e0) s Q) :
   wpAny (model prog w) (ktrTop dp un gd cn cs L a ccd cl outer) (call (.ref 199) [.ref gm, .ref it, .ref tn]) Q E s := by
  obtain ⟨C, g, sec, nm, mul, hi, hK, hm, hm', ha, ha', rfl, rfl⟩ := I
  obtain ⟨n0, n1, t1, t2, nn, hnm⟩ := hnm
  have S' := S.mono sub_fr hof
  obtain ⟨kV, dV, hl, v0, v1⟩ := S.dv
  refine mstats_ok B F X N T hk hdp hun hn S.hz hof S'.hS S'.hC S'.ht dV (hG.mono sub_fr) (hi.mono sub_fr) hK hm hm' ha ha' n0 n1 (sub_fr _ hnm) (v0.mono sub_fr) hd (by omega) fun h' tk' ps' ext r d x t u F' N' ab tb => ?_
  exact ret _ _ _ _ _ _ _ _ _ F' N' ab ⟨S.hz, S.ho.ext2 ab, S.hS.mono sub_ext, (S.mono sub_ext (S.ho.ext2 ab)).hC, tb _ S.ht, S.ds, kV, dV, hl, v0.mono sub_ext, v1.mono sub_ext⟩
theorem gstat_m1 (B : Below A₀ base outer h₀) (F : Fr h₀ L s.heap m) (X : (kd.heap_1 w.params).In h₀) (N : News h₀ L s.heap news) (T : Top p loose mean mg mb h₀) (hk : cs.kind = .function) (hdp : dp ≤ 920) (hun : un ≤ 9320) (hn : news = (z.st, oSt) :: (z.ex, oEx) :: (z.ev, oEv) :: (653, tabObj ps) :: (z.nw, oN) :: (fr ++ rest)) (hof : Offz z (fr ++ rest)) (S : StoreSt prog w z oSt oEx oEv oN ps rest k0 k1 k2 e0 e1 fx cap now)
   (hG : LimIn w rest z 202 gm) (I : LimOne w rest n it amt W k1) (hnm : NamesAt rest tn n) (hd : Desc e1) (hb : e1.length ≤ 1000)
   (ret : StatR h₀ L m prog w z oSt oEx oEv oN ps fr rest k0 k1 k2 e0 e1 fx cap now (amt - idx (now - W) e1) s Q) :
   wpAny (model prog w) (ktrTop dp un gd cn cs L a ccd cl outer) (call (.ref 199) [.ref gm, .ref it, .ref tn]) Q E s :=
  gstat_m B F X N T hk hdp hun hn hof S.swap hG I hnm hd hb fun h' tk' ps' ext r d x t u F' N' ab S' => ret _ _ _ _ _ _ _ _ _ F' N' ab S'.swap
def FixR (h₀ : Heap) (L : Addr) (m : Str → Option Value) (prog : Program) (w : World) (z : Z) (oEv oN : Obj) (ps : Array Value) (fr rest : List (Addr × Obj)) (k0 k1 k2 : Str) (e0 e1 : List Int) (fx : Option (Int × Int)) (cap : Nat) (now : Int) (v : Value) (s : Shared) (Q : Value → Shared → Prop) : Prop :=
  ∀ h' tk' oSt' oEx', Fr h₀ L h' m → News h₀ L h' ((z.st, oSt') :: (z.ex, oEx') :: (z.ev, oEv) :: (653, tabObj ps) :: (z.nw, oN) :: (fr ++ rest)) → StoreSt prog w z oSt' oEx' oEv oN ps rest k0 k1 k2 e0 e1 fx cap now → Q v { s with heap := h', toks := tk' }
theorem gtest_f (B : Below A₀ base outer h₀) (F : Fr h₀ L s.heap m) (X : (kd.heap_1 w.params).In h₀) (N : News h₀ L s.heap news) (T : Top p loose mean mg mb h₀) (hk : cs.kind = .function) (hdp : dp ≤ 920) (hun : un ≤ 9320) (hn : news = (z.st, oSt) :: (z.ex, oEx) :: (z.ev, oEv) :: (653, tabObj ps) :: (z.nw, oN) :: (fr ++ rest)) (hof : Offz z (fr ++ rest)) (S : StoreSt prog w z oSt oEx oEv oN ps rest k0 k1 k2 e0 e1 fx cap now)
   (hG : LimIn w rest z 241 gm) (I : LimOne w rest n it amt W k2) (hnm : NamesAt rest tn n)
   (ret : FixR h₀ L m prog w z oEv oN ps fr rest k0 k1 k2 e0 e1 (live now fx) cap now (.bool (decide (tot (live now fx) < amt - c + 1))) s Q) :
   wpAny (model prog w) (ktrTop dp un gd cn cs L a ccd cl outer) (call (.ref 229) [.ref gm, .ref it, .ref tn, .int c t9]) Q E s := by
  obtain ⟨C, g, sec, nm, mul, hi, hK, hm, hm', ha, ha', rfl, rfl⟩ := I
  obtain ⟨n0, n1, t1, t2, nn, hnm⟩ := hnm
  have S' := S.mono sub_fr hof
  obtain ⟨kS, kE, dS, dE, hf⟩ := S.ds
  refine ftest_ok B F X N T hk hdp hun hn S.hz hof S'.hS S'.hC dS dE (hG.mono sub_fr) (hi.mono sub_fr) hK hm hm' ha ha' n0 n1 (sub_fr _ hnm) hf fun h' tk' oSt' oEx' kS' kE' F' N' d1 d2 hf' => ?_
  exact ret _ _ _ _ F' N' ⟨S.hz, S.ho, S.hS, S.hC, S.ht, ⟨kS', kE', d1, d2, hf'⟩, S.dv⟩
theorem ghit_f (B : Below A₀ base outer h₀) (F : Fr h₀ L s.heap m) (X : (kd.heap_1 w.params).In h₀) (N : News h₀ L s.heap news) (T : Top p loose mean mg mb h₀) (hk : cs.kind = .function) (hdp : dp ≤ 920) (hun : un ≤ 9320) (hn : news = (z.st, oSt) :: (z.ex, oEx) :: (z.ev, oEv) :: (653, tabObj ps) :: (z.nw, oN) :: (fr ++ rest)) (hof : Offz z (fr ++ rest)) (S : StoreSt prog w z oSt oEx oEv oN ps rest k0 k1 k2 e0 e1 fx cap now)
   (hG : LimIn w rest z 241 gm) (I : LimOne w rest n it amt W k2) (hnm : NamesAt rest tn n) (hpos : ∀ t e, live now fx = some (t, e) → 1 ≤ t)
   (ret : FixR h₀ L m prog w z oEv oN ps fr rest k0 k1 k2 e0 e1 (bump now W c (live now fx)) cap now (.bool (decide (tot (bump now W c (live now fx)) ≤ amt))) s Q) :
   wpAny (model prog w) (ktrTop dp un gd cn cs L a ccd cl outer) (call (.ref 220) [.ref gm, .ref it, .ref tn, .int c t9]) Q E s := by
  obtain ⟨C, g, sec, nm, mul, hi, hK, hm, hm', ha, ha', rfl, rfl⟩ := I
  obtain ⟨n0, n1, t1, t2, nn, hnm⟩ := hnm
  have S' := S.mono sub_fr hof
  obtain ⟨kS, kE, dS, dE, hf⟩ := S.ds
  refine fhit_ok B F X N T hk hdp hun hn S.hz hof S'.hS S'.hC dS dE (hG.mono sub_fr) (hi.mono sub_fr) hK hm hm' ha ha' n0 n1 (sub_fr _ hnm) hf hpos fun h' tk' oSt' oEx' kS' kE' F' N' d1 d2 hf' => ?_
  exact ret _ _ _ _ F' N' ⟨S.hz, S.ho, S.hS, S.hC, S.ht, ⟨kS', kE', d1, d2, hf'⟩, S.dv⟩
def FixS (h₀ : Heap) (L : Addr) (m : Str → Option Value) (prog : Program) (w : World) (z : Z) (oEv oN : Obj) (ps : Array Value) (fr rest : List (Addr × Obj)) (k0 k1 k2 : Str) (e0 e1 : List Int) (fx : Option (Int × Int)) (cap : Nat) (now left : Int) (s : Shared) (Q : Value → Shared → Prop) : Prop :=
  ∀ h' tk' oSt' oEx' r d x t u, Fr h₀ L h' m → News h₀ L h' ((r, wsObj #[.int x t, .int left u] d 0) :: (d, emptyDict) :: (z.st, oSt') :: (z.ex, oEx') :: (z.ev, oEv) :: (653, tabObj ps) :: (z.nw, oN) :: (fr ++ rest)) → StoreSt prog w z oSt' oEx' oEv oN ps rest k0 k1 k2 e0 e1 fx cap now → Q (.ref r) { s with heap := h', toks := tk' }
theorem gstat_f (B : Below A₀ base outer h₀) (F : Fr h₀ L s.heap m) (X : (kd.heap_1 w.params).In h₀) (N : News h₀ L s.heap news) (T : Top p loose mean mg mb h₀) (hk : cs.kind = .function) (hdp : dp ≤ 920) (hun : un ≤ 9320) (hn : news = (z.st, oSt) :: (z.ex, oEx) :: (z.ev, oEv) :: (653, tabObj ps) :: (z.nw, oN) :: (fr ++ rest)) (hof : Offz z (fr ++ rest)) (S : StoreSt prog w z oSt oEx oEv oN ps rest k0 k1 k2 e0 e1 fx cap now)
   (hG : LimIn w rest z 241 gm) (I : LimOne w rest n it amt W k2) (hnm : NamesAt rest tn n)
   (ret : FixS h₀ L m prog w z oEv oN ps fr rest k0 k1 k2 e0 e1 (live now fx) cap now (if amt - tot (live now fx) > 0 then amt - tot (live now fx) else 0) s Q) :
   wpAny (model prog w) (ktrTop dp un gd cn cs L a ccd cl outer) (call (.ref 238) [.ref gm, .ref it, .ref tn]) Q E s := by
  obtain ⟨C, g, sec, nm, mul, hi, hK, hm, hm', ha, ha', rfl, rfl⟩ := I
  obtain ⟨n0, n1, t1, t2, nn, hnm⟩ := hnm
  have S' := S.mono sub_fr hof
  obtain ⟨kS, kE, dS, dE, hf⟩ := S.ds
  refine fstats_ok B F X N T hk hdp hun hn S.hz hof S'.hS S'.hC dS dE (hG.mono sub_fr) (hi.mono sub_fr) hK hm hm' ha ha' n0 n1 (sub_fr _ hnm) hf fun h' tk' oSt' oEx' kS' kE' r d x t u F' N' d1 d2 hf' => ?_
  exact ret _ _ _ _ _ _ _ _ _ F' N' ⟨S.hz, S.ho, S.hS, S.hC, S.ht, ⟨kS', kE', d1, d2, hf'⟩, S.dv⟩
end
end
end
section
open Lean PySem PySem.Calls PySem.W PyProof.Rows PyProof.V PySem.Spec PyProof.Rows.LCg
local macro_rules | `(tactic| walk_at $s:str) => `(tactic| k_extra $(Lean.Syntax.mkStrLit ("R5 " ++ s.getString)))
section
variable {prog : Program} {w : World} {p : Program} {loose : List Str} {mean : ExcName → Option Value} {mg mb : Str → Option Value} {dp un : Nat} {gd : Option (List Code)} {cn : Str} {cs : Scope} {a : Addr} {ccd : Value} {cl : List (Str × Addr)} {outer : List Env} {A₀ : Around} {base h₀ : Heap} {L : Addr} {m : Str → Option Value} {news : List (Addr × Obj)} {s : Shared} {Q E : Value → Shared → Prop}
theorem ln_R5_1 : True := by
  try walk1
  k_with "R5 k:k_room" => k_extra "ln 0"
  k_with "R5 k:k_enter" => k_extra "ln 1"
  k_with "R5 my_mem" => k_extra "ln 2"
  k_with "R5 k:k_mem" => k_extra "ln 3"
  k_with "R5 my_split" => k_extra "ln 4"
  k_with "R5 my_ltf" => k_extra "ln 5"
  k_with "R5 k:k_ne" => k_extra "ln 6"
  k_with "R5 my_reord" => k_extra "ln 7"
  k_with "R5 my_all" => k_extra "ln 8"
  k_with "R5 k:k_all" => k_extra "ln 9"
  k_with "R5 call builtin:len" => k_extra "ln 10"
  k_with "R5 subscriptTail" => k_extra "ln 11"
  k_with "R5 subscriptTail Name Name ref int" => k_extra "ln 11"
  k_with "R5 subscriptTail" => k_extra "ln 12"
  k_with "R5 subscriptTail Name Slice ref ref" => k_extra "ln 12"
  k_with "R5 call builtin:sum" => k_extra "ln 13"
  k_with "R5 my_rows" => k_extra "ln 15"
  k_with "R5 my_room" => k_extra "ln 16"
  k_with "R5 my_ctx" => k_extra "ln 17"
  k_with "R5 my_ctx0" => k_extra "ln 18"
  k_with "R5 my_obj" => k_extra "ln 22"
  k_with "R5 call type:type" => k_extra "ln 23"
  k_with "R5 call builtin:issubclass" => k_extra "ln 24"
  k_with "R5 call builtin:tuple.__getitem__" => k_extra "ln 25"
  k_with "R5 getMethod type:tuple" => k_extra "ln 26"
  trivial

theorem tup3_0 {A : Around} {led : List (Addr × Obj)} {value slice : PySem.Expr} {t : Addr} {a b c : Value} {n : Nat} {u : Tok} (N : News h₀ L s.heap led) (hm : (t, ({ cls := .type "tuple", data := .seq #[a, b, c] n } : Obj)) ∈ led) (h : Q a s)
    (hs : subscripted slice false (.ref t) (.int 0 u) = operate [.ref t, .int 0 u] (getItem (.ref t) (.int 0 u)) := by with_unfolding_all rfl) :
    wpAny (model prog w) A (subscriptTail value slice (.ref t) (.int 0 u)) Q E s := by
  have ht : s.heap.IsTuple t #[a, b, c] := ⟨_, (N _ hm).1, rfl, n, rfl⟩
  exact tail_any ht.typeIs slot_tuple_getitem.lookup (getItem_tuple ht (by decide) (by decide) (j := 0) rfl rfl h) hs
theorem tup3_1 {A : Around} {led : List (Addr × Obj)} {value slice : PySem.Expr} {t : Addr} {a b c : Value} {n : Nat} {u : Tok} (N : News h₀ L s.heap led) (hm : (t, ({ cls := .type "tuple", data := .seq #[a, b, c] n } : Obj)) ∈ led) (h : Q b s)
    (hs : subscripted slice false (.ref t) (.int 1 u) = operate [.ref t, .int 1 u] (getItem (.ref t) (.int 1 u)) := by with_unfolding_all rfl) :
    wpAny (model prog w) A (subscriptTail value slice (.ref t) (.int 1 u)) Q E s := by
  have ht : s.heap.IsTuple t #[a, b, c] := ⟨_, (N _ hm).1, rfl, n, rfl⟩
  exact tail_any ht.typeIs slot_tuple_getitem.lookup (getItem_tuple ht (by decide) (by decide) (j := 1) rfl rfl h) hs
theorem tup3_2 {A : Around} {led : List (Addr × Obj)} {value slice : PySem.Expr} {t : Addr} {a b c : Value} {n : Nat} {u : Tok} (N : News h₀ L s.heap led) (hm : (t, ({ cls := .type "tuple", data := .seq #[a, b, c] n } : Obj)) ∈ led) (h : Q c s)
    (hs : subscripted slice false (.ref t) (.int 2 u) = operate [.ref t, .int 2 u] (getItem (.ref t) (.int 2 u)) := by with_unfolding_all rfl) :
    wpAny (model prog w) A (subscriptTail value slice (.ref t) (.int 2 u)) Q E s := by
  have ht : s.heap.IsTuple t #[a, b, c] := ⟨_, (N _ hm).1, rfl, n, rfl⟩
  exact tail_any ht.typeIs slot_tuple_getitem.lookup (getItem_tuple ht (by decide) (by decide) (j := 2) rfl rfl h) hs
set_option maxHeartbeats 4000000 in
theorem ws_tg_ok (B : Below A₀ base outer h₀) (F : Fr h₀ L s.heap m) (X : (kd.heap_1 w.params).In h₀) (N : News h₀ L s.heap news) (T : Top p loose mean mg mb h₀) (hk : cs.kind = .function) (hdp : dp ≤ 950) (hun : un ≤ 9500) {x dx : Addr} {v0 : Value} {y : Int} {tk0 : Tok} {n0 : Nat}
   (hx : (x, wsObj #[v0, .int y tk0] dx n0) ∈ news)
   (ret : ∀ h' tk', Fr h₀ L h' m → News h₀ L h' news → Q (.int y tk0) { s with heap := h', toks := tk'}) :
   wpAny (model prog w) (ktrTop dp un gd cn cs L a ccd cl outer) (call (.ref 43) [.ref 127, .ref x, .ref 132]) Q E s := by
  k_steps
  exact ret _ _ (by assumption) (by assumption)
set_option maxHeartbeats 4000000 in
theorem ws_rem_ok (B : Below A₀ base outer h₀) (F : Fr h₀ L s.heap m) (X : (kd.heap_1 w.params).In h₀) (N : News h₀ L s.heap news) (T : Top p loose mean mg mb h₀) (hk : cs.kind = .function) (hdp : dp ≤ 940) (hun : un ≤ 9440) {x dx : Addr} {v0 : Value} {y : Int} {tk0 : Tok} {n0 : Nat} {expr : Bool}
   (hx : (x, wsObj #[v0, .int y tk0] dx n0) ∈ news) (hd : (dx, emptyDict) ∈ news)
   (ret : ∀ h' tk', Fr h₀ L h' m → News h₀ L h' news → Q (.int y tk0) { s with heap := h', toks := tk'}) :
   wpAny (model prog w) (ktrTop dp un gd cn cs L a ccd cl outer) (getAttr (.ref x) (Str.ofString "remaining") expr) Q E s := by
  have X' := X.keeps F.keep
  refine tup_attr (f := 43) (a := .ref 127) (od := some emptyDict) (C := 132) X' ⟨(N _ hx).1, rfl, rfl, (N _ hd).1⟩ (by k_is) (by k_is) (findObj_data (show isClsIn _ _ = true by k_is) (by k_is) (by k_is) (by k_is)) (by k_is) fun E' => ?_
  refine ws_tg_ok (dp := dp) (un := un + 1) (s := { s with toks := s.toks + 1 }) B F X N T hk (by omega) (by omega) hx fun h' tk' F' N' => ?_
  exact handed_on rfl (ret _ _ F' N')
end
end
section
open Lean PySem PySem.Calls PySem.W PyProof.Rows PyProof.V PySem.Spec PyProof.Rows.LCg
local macro_rules | `(tactic| walk_at $s:str) => `(tactic| k_extra $(Lean.Syntax.mkStrLit ("R4 " ++ s.getString)))
local macro_rules | `(tactic| walk_at "none") => `(tactic| fail)
section
variable {prog : Program} {w : World} {p : Program} {loose : List Str} {mean : ExcName → Option Value} {mg mb : Str → Option Value} {dp un : Nat} {gd : Option (List Code)} {cn : Str} {cs : Scope} {a : Addr} {ccd : Value} {cl : List (Str × Addr)} {outer : List Env} {A₀ : Around} {base h₀ : Heap} {L : Addr} {m : Str → Option Value} {news : List (Addr × Obj)} {s : Shared} {Q E : Value → Shared → Prop}
theorem ln_R4_1 : True := by
  try walk1
  k_with "R4 k:k_room" => k_extra "ln 0"
  k_with "R4 k:k_enter" => k_extra "ln 1"
  k_with "R4 my_mem" => k_extra "ln 2"
  k_with "R4 k:k_mem" => k_extra "ln 3"
  k_with "R4 my_split" => k_extra "ln 4"
  k_with "R4 my_ltf" => k_extra "ln 5"
  k_with "R4 k:k_ne" => k_extra "ln 6"
  k_with "R4 my_reord" => k_extra "ln 7"
  k_with "R4 my_all" => k_extra "ln 8"
  k_with "R4 k:k_all" => k_extra "ln 9"
  k_with "R4 call builtin:len" => k_extra "ln 10"
  k_with "R4 subscriptTail" => k_extra "ln 11"
  k_with "R4 subscriptTail Name Name ref int" => k_extra "ln 11"
  k_with "R4 subscriptTail" => k_extra "ln 12"
  k_with "R4 subscriptTail Name Slice ref ref" => k_extra "ln 12"
  k_with "R4 call builtin:sum" => k_extra "ln 13"
  k_with "R4 my_rows" => k_extra "ln 15"
  k_with "R4 my_room" => k_extra "ln 16"
  k_with "R4 my_ctx" => k_extra "ln 17"
  k_with "R4 my_ctx0" => k_extra "ln 18"
  k_with "R4 my_store" => k_extra "ln 38"
  k_with "R4 my_clock" => k_extra "ln 39"
  k_with "R4 getAttr ref" => k_extra "ln 40"
  k_with "R4 getAttr ref" => k_extra "ln 41"
  k_with "R4 getAttr ref" => k_extra "ln 42"
  k_with "R4 getMethod ref" => k_extra "ln 43"
  k_with "R4 getMethod ref" => k_extra "ln 44"
  k_with "R4 getMethod ref" => k_extra "ln 45"
  k_with "R4 getMethod ref" => k_extra "ln 46"
  k_with "R4 getMethod ref" => k_extra "ln 47"
  k_with "R4 call ref" => k_extra "ln 48"
  k_with "R4 getMethod ref" => k_extra "ln 49"
  k_with "R4 getMethod ref" => k_extra "ln 50"
  k_with "R4 callWith ref" => k_extra "ln 51"
  k_with "R4 my_val" => k_extra "ln 52"
  k_with "R4 my_size" => k_extra "ln 53"
  k_with "R4 call builtin:dict.get" => k_extra "ln 54"
  k_with "R4 call builtin:dict.pop" => k_extra "ln 55"
  k_with "R4 subscriptTail" => k_extra "ln 56"
  k_with "R4 subscriptTail Attribute Name Name ref str" => k_extra "ln 56"
  k_with "R4 setItem ref str" => k_extra "ln 57"
  k_with "R4 eval ListComp" => k_extra "ln 14"
  k_with "R4 pyIter ref" => k_extra "ln 14"
  k_with "ln 105" => ((k_here; (with_reducible show wpAny _ _ (subscriptTail _ _ (Value.ref _) (Value.int 0 _)) _ _ _); k_dflt (refine' tup3_0 ?z105xN ?z105xm ?_ ?z105xd; (case z105xN => k_asm); (case z105xm => k_mem); (case z105xd => with_unfolding_all rfl); k_whole)))
  k_with "R4 subscriptTail Name Name ref int" => k_extra "ln 105"
  k_with "ln 106" => ((k_here; (with_reducible show wpAny _ _ (subscriptTail _ _ (Value.ref _) (Value.int 1 _)) _ _ _); k_dflt (refine' tup3_1 ?z106xN ?z106xm ?_ ?z106xd; (case z106xN => k_asm); (case z106xm => k_mem); (case z106xd => with_unfolding_all rfl); k_whole)))
  k_with "R4 subscriptTail Name Name ref int" => k_extra "ln 106"
  k_with "ln 107" => ((k_here; (with_reducible show wpAny _ _ (subscriptTail _ _ (Value.ref _) (Value.int 2 _)) _ _ _); k_dflt (refine' tup3_2 ?z107xN ?z107xm ?_ ?z107xd; (case z107xN => k_asm); (case z107xm => k_mem); (case z107xd => with_unfolding_all rfl); k_whole)))
  k_with "R4 subscriptTail Name Name ref int" => k_extra "ln 107"
  k_with "R4 subscriptTail Name Constant ref int" => k_extra "ln 105"
  k_with "R4 subscriptTail Name Constant ref int" => k_extra "ln 106"
  k_with "R4 subscriptTail Name Constant ref int" => k_extra "ln 107"
  k_with "R4 subscriptTail Subscript Name Name Constant ref int" => k_extra "ln 105"
  k_with "R4 subscriptTail Subscript Name Name Constant ref int" => k_extra "ln 106"
  k_with "R4 subscriptTail Subscript Name Name Constant ref int" => k_extra "ln 107"
  k_with "R4 subscriptTail Subscript Name Constant Constant ref int" => k_extra "ln 105"
  k_with "R4 subscriptTail Subscript Name Constant Constant ref int" => k_extra "ln 106"
  k_with "R4 subscriptTail Subscript Name Constant Constant ref int" => k_extra "ln 107"
  k_with "ln 108" => ((refine Stop.out ?_))
  k_with "R4 binaryOp Add ref ref" => k_extra "ln 108"
  trivial

theorem reord3 {h₀ h : Heap} {L : Addr} {i c d a1 a2 a3 a4 a5 : Addr × Obj} {r : List (Addr × Obj)} (N : News h₀ L h (i :: c :: d :: a1 :: a2 :: a3 :: a4 :: a5 :: r)) : News h₀ L h (a1 :: a2 :: a3 :: a4 :: a5 :: i :: c :: d :: r) :=
  cb_drop N (by walk_at "my_reord")
theorem offz3 {z : Z} {I C D : Addr} {oI oC oD oSt oEx oEv oT oN : Obj} {r : List (Addr × Obj)} (off : Off3 I C D ((z.st, oSt) :: (z.ex, oEx) :: (z.ev, oEv) :: (653, oT) :: (z.nw, oN) :: r)) (h : Offz z r) : Offz z ((I, oI) :: (C, oC) :: (D, oD) :: r) := by
  have m := off.mem
  have m1 := m _ (.head _)
  have m2 := m _ (.tail _ (.head _))
  have m3 := m _ (.tail _ (.tail _ (.head _)))
  have m4 := m _ (.tail _ (.tail _ (.tail _ (.head _))))
  have m5 := m _ (.tail _ (.tail _ (.tail _ (.tail _ (.head _)))))
  exact ((h.cons (Ne.symm m1.2.2) (Ne.symm m2.2.2) (Ne.symm m3.2.2) (Ne.symm m4.2.2) (Ne.symm m5.2.2)).cons (Ne.symm m1.2.1) (Ne.symm m2.2.1) (Ne.symm m3.2.1) (Ne.symm m4.2.1) (Ne.symm m5.2.1)).cons (Ne.symm m1.1) (Ne.symm m2.1) (Ne.symm m3.1) (Ne.symm m4.1) (Ne.symm m5.1)
theorem off3_next {z : Z} {I C D : Addr} {oI oC oD oSt oEx oEv oT oN oSt' oEx' oEv' oT' : Obj} {FR r ext : List (Addr × Obj)} (off : Off3 I C D ((z.st, oSt) :: (z.ex, oEx) :: (z.ev, oEv) :: (653, oT) :: (z.nw, oN) :: (FR ++ r)))
    (ab : Above ext ((z.st, oSt) :: (z.ex, oEx) :: (z.ev, oEv) :: (653, oT) :: (z.nw, oN) :: (((I, oI) :: (C, oC) :: (D, oD) :: FR) ++ r))) : Off3 I C D ((z.st, oSt') :: (z.ex, oEx') :: (z.ev, oEv') :: (653, oT') :: (z.nw, oN) :: (FR ++ (ext ++ r))) := by
  have m := off.mem
  refine Off3.of fun p hp => ?_
  rcases List.mem_cons.mp hp with rfl | hp
  · exact m (z.st, oSt) (.head _)
  rcases List.mem_cons.mp hp with rfl | hp
  · exact m (z.ex, oEx) (.tail _ (.head _))
  rcases List.mem_cons.mp hp with rfl | hp
  · exact m (z.ev, oEv) (.tail _ (.tail _ (.head _)))
  rcases List.mem_cons.mp hp with rfl | hp
  · exact m (653, oT) (.tail _ (.tail _ (.tail _ (.head _))))
  rcases List.mem_cons.mp hp with rfl | hp
  · exact m _ (.tail _ (.tail _ (.tail _ (.tail _ (.head _)))))
  rcases List.mem_append.mp hp with hp | hp
  · exact m _ (.tail _ (.tail _ (.tail _ (.tail _ (.tail _ (mem_left hp))))))
  rcases List.mem_append.mp hp with hp | hp
  · exact ⟨ab.off (.tail _ (.tail _ (.tail _ (.tail _ (.tail _ (.head _)))))) p hp, ab.off (.tail _ (.tail _ (.tail _ (.tail _ (.tail _ (.tail _ (.head _))))))) p hp, ab.off (.tail _ (.tail _ (.tail _ (.tail _ (.tail _ (.tail _ (.tail _ (.head _)))))))) p hp⟩
  · exact m _ (.tail _ (.tail _ (.tail _ (.tail _ (.tail _ (mem_right hp))))))
theorem offz_mid {z : Z} {FR ext r : List (Addr × Obj)} (h : Offz z (FR ++ r)) (k : Offz z (ext ++ r)) : Offz z (FR ++ (ext ++ r)) := by
  have go : ∀ p ∈ FR ++ (ext ++ r), p ∈ FR ++ r ∨ p ∈ ext ++ r := fun p hp => (List.mem_append.mp hp).elim (fun h => .inl (mem_left h)) .inr
  exact ⟨fun p hp => (go p hp).elim (h.a1 p) (k.a1 p), fun p hp => (go p hp).elim (h.a2 p) (k.a2 p), fun p hp => (go p hp).elim (h.a3 p) (k.a3 p), fun p hp => (go p hp).elim (h.a4 p) (k.a4 p), fun p hp => (go p hp).elim (h.a5 p) (k.a5 p)⟩
theorem ln_R4_2 : True := by
  k_with "ln 109" => ((k_here; (with_reducible show wpAny _ _ (call (Value.ref 199) _) _ _ _); refine Stop.out ?_))
  k_with "R4 call ref" => k_extra "ln 109"
  k_with "ln 110" => ((k_here; (with_reducible show wpAny _ _ (call (Value.ref 199) _) _ _ _); k_dflt (refine' gstat_m (fr := _ :: _ :: _ :: _) ?zcB ?zcF ?zcX ?zcN ?zcT ?zchk ?zcdp ?zcun ?z110xn ?z110xo ?z110xS ?z110xG ?z110xI ?z110xnm ?z110xd ?z110xb ?_; (case zcN => exact reord3 (by k_asm)); (walk_at "my_ctx0"); (case z110xn => exact rfl); (case z110xS => assumption); (case z110xI => exact LimOne.mono (by assumption) (by intro p hp; k_mem)); (case z110xo => assumption); (case z110xG => exact LimIn.mono (by assumption) (by intro p hp; k_mem)); (case z110xnm => exact NamesAt.mono (by assumption) (by intro p hp; k_mem)); (case z110xd => assumption); (case z110xb => assumption); k_whole); unfold StatR; intro h'q tk'q ps'q ext'q r'q d'q x'q t'q u'q F'q N'q ab'q S''q))
  k_with "R4 call ref" => k_extra "ln 110"
  k_with "ln 111" => ((k_here; (with_reducible show wpAny _ _ (call (Value.ref 199) _) _ _ _); k_dflt (refine' gstat_m1 (fr := _ :: _ :: _ :: _) ?zcB ?zcF ?zcX ?zcN ?zcT ?zchk ?zcdp ?zcun ?z111xn ?z111xo ?z111xS ?z111xG ?z111xI ?z111xnm ?z111xd ?z111xb ?_; (case zcN => exact reord3 (by k_asm)); (walk_at "my_ctx0"); (case z111xn => exact rfl); (case z111xS => assumption); (case z111xI => exact LimOne.mono (by assumption) (by intro p hp; k_mem)); (case z111xo => assumption); (case z111xG => exact LimIn.mono (by assumption) (by intro p hp; k_mem)); (case z111xnm => exact NamesAt.mono (by assumption) (by intro p hp; k_mem)); (case z111xd => assumption); (case z111xb => assumption); k_whole); unfold StatR; intro h'q tk'q ps'q ext'q r'q d'q x'q t'q u'q F'q N'q ab'q S''q))
  k_with "R4 call ref" => k_extra "ln 111"
  k_with "ln 112" => ((k_here; (with_reducible show wpAny _ _ (call (Value.ref 238) _) _ _ _); k_dflt (refine' gstat_f (fr := _ :: _ :: _ :: _) ?zcB ?zcF ?zcX ?zcN ?zcT ?zchk ?zcdp ?zcun ?z112xn ?z112xo ?z112xS ?z112xG ?z112xI ?z112xnm ?_; (case zcN => exact reord3 (by k_asm)); (walk_at "my_ctx0"); (case z112xn => exact rfl); (case z112xS => assumption); (case z112xI => exact LimOne.mono (by assumption) (by intro p hp; k_mem)); (case z112xo => assumption); (case z112xG => exact LimIn.mono (by assumption) (by intro p hp; k_mem)); (case z112xnm => exact NamesAt.mono (by assumption) (by intro p hp; k_mem)); k_whole); unfold FixS; intro h'q tk'q oS'q oE'q r'q d'q x'q t'q u'q F'q N'q S''q))
  k_with "R4 call ref" => k_extra "ln 112"
  k_with "ln 113" => ((k_here; (with_reducible show wpAny _ _ (getMethod _ (Str.ofString "get_window_stats") _) _ _ _); k_dflt (refine' lim_stats_m ?z113xF ?z113xX ?z113xN ?z113xi ?_; (case z113xF => k_asm); (case z113xX => k_asm); (case z113xN => k_asm); (case z113xi => exact LimIn.mono (by assumption) (by intro p hp; k_mem)); k_whole)))
  k_with "R4 getMethod ref" => k_extra "ln 113"
  k_with "ln 114" => ((k_here; (with_reducible show wpAny _ _ (getMethod _ (Str.ofString "get_window_stats") _) _ _ _); k_dflt (refine' lim_stats_f ?z114xF ?z114xX ?z114xN ?z114xi ?_; (case z114xF => k_asm); (case z114xX => k_asm); (case z114xN => k_asm); (case z114xi => exact LimIn.mono (by assumption) (by intro p hp; k_mem)); k_whole)))
  k_with "R4 getMethod ref" => k_extra "ln 114"
  k_with "ln 115" => ((k_here; (with_reducible show wpAny _ _ (getAttr _ (Str.ofString "remaining") _) _ _ _); k_dflt (refine' ws_rem_ok ?zcB ?zcF ?zcX ?zcN ?zcT ?zchk ?zcdp ?zcun ?z115xx ?z115xd ?_; (walk_at "my_ctx"); (case z115xx => k_mem); (case z115xd => k_mem); k_whole); intro h'q tk'q F'q N'q))
  k_with "R4 getAttr ref" => k_extra "ln 115"
  trivial

def CompRng (prog : Program) (w : World) (A : Around) (h₀ : Heap) (L : Addr) (m : Str → Option Value) (env : Env) (elt : PySem.Expr) (x : Str) (scope : Scope) (cl : List (Str × Addr)) (Q : Value → Shared → Prop) (v : Value) (s₁ : Shared) : Prop :=
  CompSrc prog w A h₀ L m env elt x scope cl (fun s₂ => FinE h₀ L m s₂ Q) v s₁
theorem CompRng.of {prog : Program} {w : World} {A : Around} {h₀ : Heap} {L : Addr} {m : Str → Option Value} {env : Env} {elt : PySem.Expr} {x : Str} {scope : Scope} {cl : List (Str × Addr)} {Q : Value → Shared → Prop} {v : Value} {s₁ : Shared}
    (h : CompSrc prog w A h₀ L m env elt x scope cl (fun s₂ => FinE h₀ L m s₂ Q) v s₁) : CompRng prog w A h₀ L m env elt x scope cl Q v s₁ := h
theorem comp_rng {A : Around} {env : Env} {elt iter : PySem.Expr} {x : Str} {px : Pos} {scope : Scope} {cl : List (Str × Addr)} {pos : Pos} {Q : Value → Shared → Prop} (F₀ : Fr h₀ L s.heap m)
    (hclos : closureFor scope env = pure cl) (hcell : ∀ y ∈ scope.names, y.2 ≠ .cell) (hkind : scope.kind = .function)
    (hnames : ∀ y ∈ scope.names, y.2 = .local → scope.names.lookup y.1 = some .local) (hx : scope.names.lookup x = some .local)
    (h : wpAny (model prog w) A (eval iter env) (CompRng prog w A h₀ L m env elt x scope cl Q) E s)
    (hs : ∀ x, foldedSetIterable iter env x = pure x := by intro _; rfl) :
    wpAny (model prog w) A (eval (.ListComp elt [⟨.Name x px, iter, [], 0⟩] scope pos) env) Q E s := ListComp_U F₀ hclos hcell hkind hnames hx h hs
theorem of_of {h₀ h : Heap} {z : Z} {L I C D : Addr} {oI oC oD oSt oEx oEv oT oN : Obj} {FR r : List (Addr × Obj)} (_ : News h₀ L h ((I, oI) :: (C, oC) :: (D, oD) :: (z.st, oSt) :: (z.ex, oEx) :: (z.ev, oEv) :: (653, oT) :: (z.nw, oN) :: (FR ++ r)))
    (off : Off3 I C D ((z.st, oSt) :: (z.ex, oEx) :: (z.ev, oEv) :: (653, oT) :: (z.nw, oN) :: (FR ++ r))) (h : Offz z (FR ++ r)) : Offz z (((I, oI) :: (C, oC) :: (D, oD) :: FR) ++ r) := offz3 off h
theorem sub_mid {i c d c3 c2 c1 : Addr × Obj} {fr ext rest : List (Addr × Obj)} : ∀ p ∈ fr ++ rest, p ∈ (i :: c :: d :: c3 :: c2 :: c1 :: fr) ++ (ext ++ rest) := by
  intro p hp
  simp only [List.mem_append, List.mem_cons] at hp ⊢
  rcases hp with h | h <;> simp [h]
theorem sub_room {g0 g1 g2 g3 g4 g5 g6 c1 c2 c3 a1 a2 a3 a4 a5 : Addr × Obj} {fr e1 e2 rest : List (Addr × Obj)} : ∀ p ∈ a1 :: a2 :: a3 :: a4 :: a5 :: (fr ++ ((e2 ++ e1) ++ rest)), p ∈ g0 :: g1 :: g2 :: g3 :: g4 :: g5 :: g6 :: a1 :: a2 :: a3 :: a4 :: a5 :: ((c3 :: c2 :: c1 :: fr) ++ (e2 ++ (e1 ++ rest))) := by
  walk_at "my_reord"
theorem tie {z : Z} {I C D : Addr} {a1 a2 a3 a4 a5 : Addr × Obj} {FR r : List (Addr × Obj)} (_ : Off3 I C D (a1 :: a2 :: a3 :: a4 :: a5 :: (FR ++ r))) (h : Offz z (FR ++ r)) : Offz z (FR ++ r) := h
theorem room_el {h₀ h' : Heap} {L I C D r d : Addr} {m : Str → Option Value} {s₁ : Shared} {z : Z} {oI oC oD oSt oEx oEv oN oW oX : Obj} {ps ps' : Array Value} {FR R ext : List (Addr × Obj)} {rest : Value → List (Addr × Obj) → Prop} {y : Value} {tk : Nat}
    (F : Fr h₀ L h' m) (N : News h₀ L h' ((r, oW) :: (d, oX) :: (z.st, oSt) :: (z.ex, oEx) :: (z.ev, oEv) :: (653, tabObj ps') :: (z.nw, oN) :: (ext ++ (((I, oI) :: (C, oC) :: (D, oD) :: FR) ++ R)))) (off : Off3 I C D ((z.st, oSt) :: (z.ex, oEx) :: (z.ev, oEv) :: (653, tabObj ps) :: (z.nw, oN) :: (FR ++ R)))
    (ab : Above ext ((z.st, oSt) :: (z.ex, oEx) :: (z.ev, oEv) :: (653, tabObj ps) :: (z.nw, oN) :: (((I, oI) :: (C, oC) :: (D, oD) :: FR) ++ R))) (k : rest y ((z.st, oSt) :: (z.ex, oEx) :: (z.ev, oEv) :: (653, tabObj ps') :: (z.nw, oN) :: (FR ++ (ext ++ R)))) :
    CompEnd h₀ L m s₁ I oI C oC D oD (fun _ => True) rest y { s₁ with heap := h', toks := tk } := by
  exact CompEnd.intro F N _ (by walk_at "my_reord") (off3_next off ab) trivial k
theorem room_elf {h₀ h' : Heap} {L I C D r d : Addr} {m : Str → Option Value} {s₁ : Shared} {z : Z} {oI oC oD oSt oEx oEv oN oW oX oSt' oEx' : Obj} {ps : Array Value} {FR R : List (Addr × Obj)} {rest : Value → List (Addr × Obj) → Prop} {y : Value} {tk : Nat}
    (F : Fr h₀ L h' m) (N : News h₀ L h' ((r, oW) :: (d, oX) :: (z.st, oSt') :: (z.ex, oEx') :: (z.ev, oEv) :: (653, tabObj ps) :: (z.nw, oN) :: (((I, oI) :: (C, oC) :: (D, oD) :: FR) ++ R))) (off : Off3 I C D ((z.st, oSt) :: (z.ex, oEx) :: (z.ev, oEv) :: (653, tabObj ps) :: (z.nw, oN) :: (FR ++ R)))
    (k : rest y ((z.st, oSt') :: (z.ex, oEx') :: (z.ev, oEv) :: (653, tabObj ps) :: (z.nw, oN) :: (FR ++ R))) :
    CompEnd h₀ L m s₁ I oI C oC D oD (fun _ => True) rest y { s₁ with heap := h', toks := tk } := by
  refine CompEnd.intro F N ((z.st, oSt') :: (z.ex, oEx') :: (z.ev, oEv) :: (653, tabObj ps) :: (z.nw, oN) :: (FR ++ R)) (by walk_at "my_reord") (off3_next (oI := oI) (oC := oC) (oD := oD) (ext := []) off .nil) trivial k
theorem above_old {z : Z} {ext r old' : List (Addr × Obj)} {oSt oEx oEv oT oN oSt' oEx' oEv' oT' oN' : Obj} (h : Above ext ((z.st, oSt) :: (z.ex, oEx) :: (z.ev, oEv) :: (653, oT) :: (z.nw, oN) :: r)) (hs : ∀ p ∈ old', p ∈ r) : Above ext ((z.st, oSt') :: (z.ex, oEx') :: (z.ev, oEv') :: (653, oT') :: (z.nw, oN') :: old') := by
  intro p hp q hq
  rcases List.mem_cons.mp hq with rfl | hq
  · exact h p hp (z.st, oSt) (.head _)
  rcases List.mem_cons.mp hq with rfl | hq
  · exact h p hp (z.ex, oEx) (.tail _ (.head _))
  rcases List.mem_cons.mp hq with rfl | hq
  · exact h p hp (z.ev, oEv) (.tail _ (.tail _ (.head _)))
  rcases List.mem_cons.mp hq with rfl | hq
  · exact h p hp (653, oT) (.tail _ (.tail _ (.tail _ (.head _))))
  rcases List.mem_cons.mp hq with rfl | hq
  · exact h p hp (z.nw, oN) (.tail _ (.tail _ (.tail _ (.tail _ (.head _)))))
  · exact h p hp q (.tail _ (.tail _ (.tail _ (.tail _ (.tail _ (hs q hq))))))
theorem Above.append {a b old : List (Addr × Obj)} (h : Above a old) (k : Above b old) : Above (a ++ b) old := fun p hp => (List.mem_append.mp hp).elim (h p) (k p)
theorem add_row (F : Fr h₀ L s.heap m) {A : Around} {led : List (Addr × Obj)} (N : News h₀ L s.heap led) {a b tp : Addr} {vs : List Value} {n k nn : Nat} {rows : List Row} {x y : Int} {t u : Tok} (ha : (a, listOf vs.toArray n) ∈ led) (hr : RowsAre led vs rows) (hb : (b, listOf #[.ref tp] k) ∈ led)
    (ht : (tp, ({ cls := .type "tuple", data := .seq #[.int x t, .int y u] nn } : Obj)) ∈ led) (hz : rows.length ≤ 1000)
    (h : ∀ D h' vs', Fr h₀ L h' m → News h₀ L h' ((D, listOf (List.toArray vs') 0) :: led) → (∀ p ∈ led, p.1 < D) → RowsAre led vs' (rows ++ [(x, y)]) → Q (.ref D) { s with heap := h' }) : wpAny (model prog w) A (binaryOp .Add (.ref a) (.ref b)) Q E s :=
  add_two F N ha (ws := [.ref tp]) hb (by have := hr.length; rw [sizeLine_eq]; simp; omega) fun D h' F' N' l => h D h' _ F' N' l (hr.append (.cons ⟨tp, t, u, nn, rfl, ht⟩ .nil))
theorem law_every_b (B : Below A₀ base outer h₀) (F : Fr h₀ L s.heap m) (X : (kd.heap_1 w.params).In h₀) (N : News h₀ L s.heap news) (T : Top p loose mean mg mb h₀) (hk : cs.kind = .function) (hdp : dp ≤ 930) (hun : un ≤ 9380) {l tl a0 a1 a2 : Addr} {vs : List Value} {nn n1 n2 n3 n4 : Nat} {rows : List Row} {v0 v1 v2 : Value} {A0 W0 A1 W1 A2 W2 : Int} {t0 u0 t1 u1 t2 u2 : Tok} {b : Bool}
   (hl : (l, listOf vs.toArray nn) ∈ news) (hr : RowsAre news vs rows) (hb : rows.length ≤ 1000)
   (hL : (tl, tup [.ref a0, .ref a1, .ref a2] n1) ∈ news) (h0 : (a0, tup [v0, .int A0 t0, .int W0 u0] n2) ∈ news) (h1 : (a1, tup [v1, .int A1 t1, .int W1 u1] n3) ∈ news) (h2 : (a2, tup [v2, .int A2 t2, .int W2 u2] n4) ∈ news)
   (he : (fitsM A0 W0 rows && fitsM A1 W1 rows && fitsF A2 W2 none 0 rows) = b)
   (ret : ∀ h' tk', Fr h₀ L h' m → News h₀ L h' news → Q (.bool b) { s with heap := h', toks := tk'}) :
   wpAny (model prog w) (ktrTop dp un gd cn cs L a ccd cl outer) (call (.ref 739) [.ref tl, .ref l]) Q E s := law_every_ok B F X N T hk hdp hun hl hr hb hL h0 h1 h2 fun h' tk' F' N' => he ▸ ret h' tk' F' N'
theorem room_b {A0 A1 A2 W0 W1 W2 now t M : Int} {rows : List Row} {fx : Option (Int × Int)} (w0 : 1 ≤ W0) (w1 : 1 ≤ W1) (hu : Up rows) (ht : Till now rows) (hp : Paid rows) (f0 : fitsM A0 W0 rows = true) (f1 : fitsM A1 W1 rows = true) (f2 : fitsF A2 W2 none 0 rows = true) (hA : 0 ≤ A2)
    (hf : FxOk W2 rows t fx) (hn : t ≤ now) (a : M = A0 - idx (now - W0) (evOf rows) ∨ M = A1 - idx (now - W1) (evOf rows) ∨ M = if A2 - tot (live now fx) > 0 then A2 - tot (live now fx) else 0)
    (b : M ≤ A0 - idx (now - W0) (evOf rows) ∧ M ≤ A1 - idx (now - W1) (evOf rows) ∧ M ≤ if A2 - tot (live now fx) > 0 then A2 - tot (live now fx) else 0) :
    (fitsM A0 W0 (rows ++ [(now, M)]) && fitsM A1 W1 (rows ++ [(now, M)]) && fitsF A2 W2 none 0 (rows ++ [(now, M)])) = true ∧
    (fitsM A0 W0 (rows ++ [(now, M + 1)]) && fitsM A1 W1 (rows ++ [(now, M + 1)]) && fitsF A2 W2 none 0 (rows ++ [(now, M + 1)])) = false := by
  rw [idx_ev rows hu hp, idx_ev rows hu hp, hf.tot hn] at a b
  refine room_most w0 w1 hu ht hp f0 f1 f2 hA ?_
  split at a <;> split at b <;> omega
theorem led3 {h₀ h : Heap} {L : Addr} {c1 c2 c3 a1 a2 a3 a4 a5 : Addr × Obj} {r : List (Addr × Obj)} (N : News h₀ L h (c1 :: c2 :: c3 :: a1 :: a2 :: a3 :: a4 :: a5 :: r)) : News h₀ L h (a1 :: a2 :: a3 :: a4 :: a5 :: c1 :: c2 :: c3 :: r) := reord3 N
theorem offzR {z : Z} {L : Addr} {o o2 o3 : Obj} {rest : List (Addr × Obj)} (h : Offz z rest) (h1 : z.st < L) (h2 : z.ex < L) (h3 : z.ev < L) (h4 : 653 < L) (h5 : z.nw < L) : Offz z ((L + 1 + 1 + 1, o) :: (L + 1 + 1, o2) :: (L + 1, o3) :: rest) := by
  have e : ∀ a : Addr, a < L → L + 1 ≠ a ∧ L + 1 + 1 ≠ a ∧ L + 1 + 1 + 1 ≠ a := fun a ha => ⟨Nat.ne_of_gt (Nat.lt_succ_of_lt ha), Nat.ne_of_gt (Nat.lt_succ_of_lt (Nat.lt_succ_of_lt ha)), Nat.ne_of_gt (Nat.lt_succ_of_lt (Nat.lt_succ_of_lt (Nat.lt_succ_of_lt ha)))⟩
  exact ((h.cons (e _ h1).1 (e _ h2).1 (e _ h3).1 (e _ h4).1 (e _ h5).1).cons (e _ h1).2.1 (e _ h2).2.1 (e _ h3).2.1 (e _ h4).2.1 (e _ h5).2.1).cons (e _ h1).2.2 (e _ h2).2.2 (e _ h3).2.2 (e _ h4).2.2 (e _ h5).2.2
theorem ln_R4_3 : True := by
  k_with "ln 116" => ((k_here; k_dflt (refine' add_row ?z116xF ?z116xN ?z116xa ?z116xr ?z116xb ?z116xt ?z116xz ?_; (case z116xF => k_asm); (case z116xN => k_asm); (case z116xa => k_mem); (case z116xz => assumption); (case z116xr => walk_at "my_rows"); (case z116xb => k_mem); (case z116xt => k_mem); k_whole); intro D'q h'q vs'q F'q N'q l1 hr'q; (try k_lt l1)))
  k_with "R4 binaryOp Add ref ref" => k_extra "ln 116"
  k_with "ln 117" => ((rw [List.length_append]; (first | omega | (simp only [List.length_cons, List.length_nil]; omega))))
  k_with "R4 my_rlen" => k_extra "ln 117"
  k_with "ln 118" => ((k_here; (with_reducible show wpAny _ _ (call (Value.ref 739) _) _ _ _); refine Stop.out ?_))
  k_with "R4 call ref" => k_extra "ln 118"
  k_with "ln 119" => ((k_here; (with_reducible show wpAny _ _ (call (Value.ref 739) _) _ _ _); k_dflt (refine' law_every_b ?zcB ?zcF ?zcX ?zcN ?zcT ?zchk ?zcdp ?zcun ?z119xl ?z119xr ?z119xz ?z119xL ?z119xh0 ?z119xh1 ?z119xh2 ?z119xe ?_; (walk_at "my_ctx"); (case z119xl => k_mem); (case z119xr => walk_at "my_rows"); (case z119xz => walk_at "my_rlen"); (case z119xL => k_mem); (case z119xh0 => k_mem); (case z119xh1 => k_mem); (case z119xh2 => k_mem); (case z119xe => assumption); k_whole); intro h'q tk'q F'q N'q))
  k_with "R4 call ref" => k_extra "ln 119"
  k_with "R4 my_rows" => k_extra "ln 15"
  trivial

def RoomR (h₀ : Heap) (L : Addr) (m : Str → Option Value) (prog : Program) (w : World) (z : Z) (oSt oEx oEv oN : Obj) (ps : Array Value) (fr rest : List (Addr × Obj)) (k0 k1 k2 : Str) (evs : List Int) (fx : Option (Int × Int)) (cap : Nat) (now : Int) (s : Shared) (Q : Value → Shared → Prop) : Prop :=
  ∀ h' tk' oSt' oEx' ps' ext, Fr h₀ L h' m → News h₀ L h' ((z.st, oSt') :: (z.ex, oEx') :: (z.ev, oEv) :: (653, tabObj ps') :: (z.nw, oN) :: (fr ++ (ext ++ rest))) →
    Above ext ((z.st, oSt) :: (z.ex, oEx) :: (z.ev, oEv) :: (653, tabObj ps) :: (z.nw, oN) :: (fr ++ rest)) → StoreSt prog w z oSt' oEx' oEv oN ps' (ext ++ rest) k0 k1 k2 evs evs (live now fx) cap now → Q (.bool true) { s with heap := h', toks := tk' }
set_option maxHeartbeats 8000000 in
theorem law_room_ok (B : Below A₀ base outer h₀) (F : Fr h₀ L s.heap m) (X : (kd.heap_1 w.params).In h₀) (N : News h₀ L s.heap news) (T : Top p loose mean mg mb h₀) (hk : cs.kind = .function) (hdp : dp ≤ 910) (hun : un ≤ 9260) {z : Z} {oSt oEx oEv oN : Obj} {ps : Array Value} {fr rest : List (Addr × Obj)} {k0 k1 k2 : Str} {fx : Option (Int × Int)} {cap : Nat} {now t n : Int}
   {ga tl tn l a0 a1 a2 it0 it1 it2 gm gf : Addr} {n1 n2 n3 n4 n5 nn : Nat} {vs : List Value} {rows : List Row} {A0 W0 A1 W1 A2 W2 : Int} {t0 u0 t1 u1 t2 u2 t9 : Tok}
   (hn : news = (z.st, oSt) :: (z.ex, oEx) :: (z.ev, oEv) :: (653, tabObj ps) :: (z.nw, oN) :: (fr ++ rest)) (hof : Offz z (fr ++ rest)) (S : StoreSt prog w z oSt oEx oEv oN ps rest k0 k1 k2 (evOf rows) (evOf rows) fx cap now)
   (hG : LimIn w rest z 202 gm) (hGf : LimIn w rest z 241 gf) (I0 : LimOne w rest n it0 A0 W0 k0) (I1 : LimOne w rest n it1 A1 W1 k1) (I2 : LimOne w rest n it2 A2 W2 k2) (hnm : NamesAt rest tn n)
   (hg : (ga, tup [.ref gm, .ref gm, .ref gf] n5) ∈ rest) (he : (evOf rows).length ≤ 1000)
   (hl : (l, listOf vs.toArray nn) ∈ rest) (hr : RowsAre rest vs rows) (hb : rows.length ≤ 900)
   (hL : (tl, tup [.ref a0, .ref a1, .ref a2] n1) ∈ rest) (h0 : (a0, tup [.ref it0, .int A0 t0, .int W0 u0] n2) ∈ rest) (h1 : (a1, tup [.ref it1, .int A1 t1, .int W1 u1] n3) ∈ rest) (h2 : (a2, tup [.ref it2, .int A2 t2, .int W2 u2] n4) ∈ rest)
   (w0 : 1 ≤ W0) (w1 : 1 ≤ W1) (hu : Up rows) (ht : Till now rows) (hp : Paid rows) (f0 : fitsM A0 W0 rows = true) (f1 : fitsM A1 W1 rows = true) (f2 : fitsF A2 W2 none 0 rows = true) (hA : 0 ≤ A2) (hf : FxOk W2 rows t fx) (htn : t ≤ now)
   (ret : RoomR h₀ L m prog w z oSt oEx oEv oN ps fr rest k0 k1 k2 (evOf rows) fx cap now s Q) :
   wpAny (model prog w) (ktrTop dp un gd cn cs L a ccd cl outer) (call (.ref 744) [.ref ga, .ref tl, .ref tn, .ref l, .int now t9]) Q E s := by
  subst hn
  have hd := desc_ev rows hu
  refine wpAny_call ?_
  k_dflt k_enter
  k_steps
  unfold Stop
  rename Fr _ _ _ _ => F1
  rename News _ _ _ _ => N1
  walk_at "my_split"
  refine comp_rng F1 rfl (by decide) rfl (by decide) rfl ?_
  k_steps
  rename IsRange _ _ _ _ _ _ _ _ => R1
  rename Fr _ _ _ _ => F2
  rename News _ _ _ _ => N2
  have oR := fun o o2 o3 => offzR (o := o) (o2 := o2) (o3 := o3) hof (by assumption) (by assumption) (by assumption) (by assumption) (by assumption)
  refine CompRng.of (CompSrc.range (n := 3) (news := _ :: _ :: _ :: _ :: _ :: ((_ :: _ :: _ :: fr) ++ rest)) rfl F2 (reord3 N2) R1 (by decide) (by decide) (by rw [sizeLine_eq]; decide) fun g => ?_)
  refine CompRest.succ ?_
  clear R1 F2 N2
  intro v I oI C oC D m₂ h tk E' hv hC hx F5 N5 off ne
  obtain ⟨tv, rfl⟩ : ∃ t, v = .int 0 t := hv
  have oR1 := tie off (oR _ _ _)
  have of1 := of_of N5 off oR1
  k_steps
  rename Above _ _ => ab1
  rename StoreSt _ _ _ _ _ _ _ _ (_ ++ _) _ _ _ _ _ _ _ _ => S2
  refine room_el (by assumption) (by assumption) off ab1 ?_
  have ob1 : Above _ ((z.st, oSt) :: (z.ex, oEx) :: (z.ev, oEv) :: (653, tabObj ps) :: (z.nw, oN) :: (fr ++ rest)) := above_old ab1 (fun p hp => .tail _ (.tail _ (.tail _ (.tail _ (.tail _ (.tail _ hp))))))
  clear F5 N5 hx hC of1 ab1
  refine CompRest.succ ?_
  have oR2 := offz_mid oR1 S2.ho
  clear off
  intro v I oI C oC D m₂ h tk E' hv hC hx F5 N5 off ne
  obtain ⟨tv, rfl⟩ : ∃ t, v = .int 1 t := hv
  have of1 := of_of N5 off oR2
  k_steps
  rename Above _ ((_, _) :: (_, _) :: (_, _) :: (_, _) :: (_, _) :: ((_, _) :: _)) => ab2
  rename StoreSt _ _ _ _ _ _ _ _ (_ ++ (_ ++ _)) _ _ _ _ _ _ _ _ => S3
  refine room_el (by assumption) (by assumption) off ab2 ?_
  have ob2 : Above _ ((z.st, oSt) :: (z.ex, oEx) :: (z.ev, oEv) :: (653, tabObj ps) :: (z.nw, oN) :: (fr ++ rest)) := above_old ab2 sub_mid
  clear F5 N5 hx hC of1 ab2 oR1
  refine CompRest.succ ?_
  have oR3 := offz_mid oR2 S3.ho
  clear off
  intro v I oI C oC D m₂ h tk E' hv hC hx F5 N5 off ne
  obtain ⟨tv, rfl⟩ : ∃ t, v = .int 2 t := hv
  have of1 := of_of N5 off oR3
  k_steps
  rename StoreSt _ _ _ _ _ _ _ _ _ _ _ _ _ _ _ _ _ => S4
  refine room_elf (by assumption) (by assumption) off ?_
  clear F5 N5 hx hC of1 off
  refine CompRest.zero ?_
  intro D h tk F6 N6 off6
  simp only [List.nil_append, List.cons_append] at N6
  k_steps
  unfold Stop
  rename _ ∨ _ => ha
  rename _ ≤ _ ∧ _ => hb'
  obtain ⟨e1, e2⟩ := room_b w0 w1 hu ht hp f0 f1 f2 hA hf htn ha hb'
  clear ha hb'
  have hb1 : rows.length ≤ 1000 := by omega
  rw [← List.append_assoc] at S4
  k_steps
  exact ret _ _ _ _ _ _ (by assumption) (cb_drop (by assumption) sub_room) (ob2.append ob1) S4
end
end
section
open Lean PySem PySem.Calls PySem.W PyProof.Rows PyProof.V PySem.Spec PyProof.Rows.LCg
theorem neAll_of2 {a c : Addr} (h : c < a) : ∀ {l : List (Addr × Obj)}, AllLt c l → NeAll a l
  | [], _ => trivial
  | _ :: _, k => ⟨Nat.ne_of_lt (Nat.lt_trans k.1 h), neAll_of2 h k.2⟩
/-- the end of a turn of a loop over enumerate(..) -/
inductive EnumEnd (h₀ : Heap) (L e I : Addr) (oe oI : Obj) (J : (Str → Option Value) → List (Addr × Obj) → Prop) (s s₂ : Shared) : Prop
  | mk (h' : _) (tk' : _) (m' : _) (nx' : _) (q0 : s₂ = { s with heap := h', toks := tk' }) (q1 : Fr h₀ L h' m') (q2 : News h₀ L h' ((e, oe) :: (I, oI) :: nx')) (q3 : (∀ p ∈ nx', p.1 ≠ e)) (q4 : (∀ p ∈ nx', p.1 ≠ I)) (q5 : J m' nx') : EnumEnd h₀ L e I oe oI J s s₂
theorem EnumEnd.intro {h₀ h' : Heap} {L e I : Addr} {oe oI : Obj} {J : (Str → Option Value) → List (Addr × Obj) → Prop} {s : Shared} {tk' : Nat} {m' : Str → Option Value} (nx' : List (Addr × Obj))
    (F : Fr h₀ L h' m') (N : News h₀ L h' ((e, oe) :: (I, oI) :: nx')) (h1 : ∀ p ∈ nx', p.1 ≠ e) (h2 : ∀ p ∈ nx', p.1 ≠ I) (hj : J m' nx') : EnumEnd h₀ L e I oe oI J s { s with heap := h', toks := tk' } :=
  ⟨h', tk', m', nx', rfl, F, N, h1, h2, hj⟩
section
variable {prog : Program} {w : World} {A : Around} {E : Value → Shared → Prop} {s : Shared} {env : Env} {h₀ : Heap} {news : List (Addr × Obj)} {m₀ : Str → Option Value}
theorem enum_restJ {x y : Str} {px py tp : Pos} {kk : Nat} {body : List Stmt} {Q : Flow → Shared → Prop} {l : Addr} {lo : Obj} {vs : List Value} {I : Addr}
    (J : Nat → (Str → Option Value) → List (Addr × Obj) → Prop) (hI : l < I)
    (hx : env.kindOf x = some .local) (hy : env.kindOf y = some .local)
    (hp : (env.scope.kind == .class || (env.scope.kind == .module && env.locals != env.globals)) = false) (hh : A.handled = none)
    (keep : ∀ i m nx, J i m nx → (l, lo) ∈ nx)
    (turn : ∀ i v t m₁ nx h tk oe oI, vs[i]? = some v → J i m₁ nx → Fr h₀ env.locals h (fun q => if q = y then some v else if q = x then some (.int (i : Int) t) else m₁ q) →
      News h₀ env.locals h ((I + 1, oe) :: (I, oI) :: nx) → (∀ p ∈ nx, p.1 ≠ I + 1) → (∀ p ∈ nx, p.1 ≠ I) →
      wpAny (model prog w) A (execs body env) (fun f s₂ => match f with
        | .ret v => Q (.ret v) s₂
        | .brk => Q .next s₂
        | _ => EnumEnd h₀ env.locals (I + 1) I oe oI (J (i + 1)) s s₂) E { s with heap := h, toks := tk })
    (done : ∀ m₁ nx h tk, J vs.length m₁ nx → Fr h₀ env.locals h m₁ → News h₀ env.locals h nx → Q .next { s with heap := h, toks := tk }) :
    ∀ (ws : List Value) (i : Nat), (∀ j v, ws[j]? = some v → vs[i + j]? = some v) → i + ws.length = vs.length → ∀ m nx, J i m nx → (∀ p ∈ nx, p.1 ≠ I + 1) → (∀ p ∈ nx, p.1 ≠ I) →
      ItemsRest prog w A E h₀ env (.Tuple [.Name x px, .Name y py] kk tp) body Q s [(I + 1, "enumerate"), (I, "list_iterator")] [(l, lo)] (enumItems i ws) m nx
  | [], i, _, hl, m, nx, hj, _, _ => by
    have e : i = vs.length := by simpa using hl
    subst e
    exact fun h tk F N => done m nx h tk hj F N
  | v :: ws, i, hv, hl, m, nx, hj, o1, o2 => by
    show ItemsRest prog w A E h₀ env _ body Q s _ _ (.pair (fun t => .int (i : Int) t) v :: enumItems (i + 1) ws) m nx
    refine ItemsRest.pair fun T t h tk hT F => AllObj.cons fun oe _ => AllObj.cons fun oI _ => AllObj.nil fun N => ?_
    have N0 : News h₀ env.locals h ((I + 1, oe) :: (I, oI) :: nx) := N
    obtain ⟨oT, g1, g2, nT, g3⟩ := hT
    refine kcp_assign (s := { s with heap := h, toks := tk }) hh ⟨oT, g1, g2, nT, g3⟩ hx hy hp F.ns fun h₂ tk₂ hn₂ hk₂ => ?_
    have up : ∀ b o, b ≠ env.locals → h.get? b = some o → h₂.get? b = some o := hk₂
    have F₂ : Fr h₀ env.locals h₂ (fun q => if q = y then some v else if q = x then some (.int (i : Int) t) else m q) :=
      ⟨hn₂, fun b o e => up b o (Nat.ne_of_lt (Nat.lt_of_lt_of_le (Heap.lt_size e) F.above)) (F.keep b o e), F.above⟩
    have N₂ : News h₀ env.locals h₂ ((I + 1, oe) :: (I, oI) :: nx) := fun p hp => ⟨up _ _ (N0 p hp).2.1 (N0 p hp).1, (N0 p hp).2⟩
    refine wpAny_mono (turn i v t m nx h₂ tk₂ oe oI (by simpa using hv 0 v rfl) hj F₂ N₂ o1 o2) (fun f s₂ p => ?_) fun _ _ e => e
    have fin : EnumEnd h₀ env.locals (I + 1) I oe oI (J (i + 1)) s s₂ → UnrEndW h₀ env.locals { s with heap := h, toks := tk } [(I + 1, oe), (I, oI)] (fun m' n' => SubL [(l, lo)] n' ∧ ItemsRest prog w A E h₀ env (.Tuple [.Name x px, .Name y py] kk tp) body Q s [(I + 1, "enumerate"), (I, "list_iterator")] [(l, lo)] (enumItems (i + 1) ws) m' n') s₂ := by
      rintro ⟨h', tk', m', nx', rfl, F', N', a1, a2, j'⟩
      refine ⟨h', tk', m', nx', rfl, F', N', fun p hp q hq => ?_, And.intro (keep _ _ _ j') trivial, enum_restJ J hI hx hy hp hh keep turn done ws (i + 1) (fun j v h => ?_) ?_ m' nx' j' a1 a2⟩
      · rcases List.mem_cons.mp hq with rfl | hq
        · exact a1 p hp
        · rw [List.mem_singleton.mp hq]; exact a2 p hp
      · have := hv (j + 1) v (by simpa using h)
        rwa [show i + 1 + j = i + (j + 1) by omega]
      · have : i + (v :: ws).length = vs.length := hl
        rw [List.length_cons] at this
        omega
    cases f with
    | ret v => exact p
    | brk => exact p
    | next => exact fin p
    | cont => exact fin p
/-- for x, y in enumerate(l), from the call on: any word over the turn's number, the frame and the ledger -/
theorem call_enumJ {x y : Str} {px py tp : Pos} {kk : Nat} {body : List Stmt} {Q : Flow → Shared → Prop} {l : Addr} {vs : List Value} {nn : Nat}
    (J : Nat → (Str → Option Value) → List (Addr × Obj) → Prop)
    (F : Fr h₀ env.locals s.heap m₀) (N : News h₀ env.locals s.heap news) (hl : (l, listOf vs.toArray nn) ∈ news)
    (hx : env.kindOf x = some .local) (hy : env.kindOf y = some .local)
    (hp : (env.scope.kind == .class || (env.scope.kind == .module && env.locals != env.globals)) = false) (hh : A.handled = none)
    (h0 : J 0 m₀ news) (keep : ∀ i m nx, J i m nx → (l, listOf vs.toArray nn) ∈ nx)
    (turn : ∀ i v t m₁ nx h tk e I oe oI, (∀ p ∈ news, p.1 < I) → I < e → vs[i]? = some v → J i m₁ nx → Fr h₀ env.locals h (fun q => if q = y then some v else if q = x then some (.int (i : Int) t) else m₁ q) →
      News h₀ env.locals h ((e, oe) :: (I, oI) :: nx) → (∀ p ∈ nx, p.1 ≠ e) → (∀ p ∈ nx, p.1 ≠ I) →
      wpAny (model prog w) A (execs body env) (fun f s₂ => match f with
        | .ret v => Q (.ret v) s₂
        | .brk => Q .next s₂
        | _ => EnumEnd h₀ env.locals e I oe oI (J (i + 1)) s s₂) E { s with heap := h, toks := tk })
    (done : ∀ m₁ nx h tk, J vs.length m₁ nx → Fr h₀ env.locals h m₁ → News h₀ env.locals h nx → Q .next { s with heap := h, toks := tk }) :
    wpAny (model prog w) A (call (.type "enumerate") [.ref l]) (fun xv s₁ => wpAny (model prog w) A (pyIter xv) (fun it s₂ => TurnsAt prog w A h₀ env (.Tuple [.Name x px, .Name y py] kk tp) body Q E it s₂) E s₁) E s := by
  refine ktu_enum hh F N hl rfl rfl rfl fun I hI => ?_
  have hI' : ∀ p ∈ news, p.1 ≠ I := fun p hp => Nat.ne_of_lt (hI p hp)
  have hI'' : ∀ p ∈ news, p.1 ≠ I + 1 := fun p hp => Nat.ne_of_lt (Nat.lt_succ_of_lt (hI p hp))
  exact enum_restJ J (hI _ hl) hx hy hp hh keep (fun i v t m₁ nx h tk oe oI a b c d e f => turn i v t m₁ nx h tk (I + 1) I oe oI hI (Nat.lt_succ_self _) a b c d e f) done vs 0 (fun j v h => by simpa using h) (by simp) m₀ news h0 hI'' hI'
end
end
section
open Lean PySem PySem.Calls PySem.W PyProof.Rows PyProof.V PySem.Spec PyProof.Rows.LCg
local macro_rules | `(tactic| walk_at $s:str) => `(tactic| k_extra $(Lean.Syntax.mkStrLit ("N1 " ++ s.getString)))
section
variable {prog : Program} {w : World} {p : Program} {loose : List Str} {mean : ExcName → Option Value} {mg mb : Str → Option Value} {dp un : Nat} {gd : Option (List Code)} {cn : Str} {cs : Scope} {a : Addr} {ccd : Value} {cl : List (Str × Addr)} {outer : List Env} {A₀ : Around} {base h₀ : Heap} {L : Addr} {m : Str → Option Value} {news : List (Addr × Obj)} {s : Shared} {Q E : Value → Shared → Prop}
theorem ln_N1_1 : True := by
  try walk1
  k_with "N1 k:k_room" => k_extra "ln 0"
  k_with "N1 k:k_enter" => k_extra "ln 1"
  k_with "N1 my_mem" => k_extra "ln 2"
  k_with "N1 k:k_mem" => k_extra "ln 3"
  k_with "N1 my_split" => k_extra "ln 4"
  k_with "N1 my_ltf" => k_extra "ln 5"
  k_with "N1 k:k_ne" => k_extra "ln 6"
  k_with "N1 my_reord" => k_extra "ln 7"
  k_with "N1 my_all" => k_extra "ln 8"
  k_with "N1 k:k_all" => k_extra "ln 9"
  k_with "N1 call builtin:len" => k_extra "ln 10"
  k_with "N1 subscriptTail" => k_extra "ln 11"
  k_with "N1 subscriptTail Name Name ref int" => k_extra "ln 11"
  k_with "N1 subscriptTail" => k_extra "ln 12"
  k_with "N1 subscriptTail Name Slice ref ref" => k_extra "ln 12"
  k_with "N1 call builtin:sum" => k_extra "ln 13"
  k_with "N1 my_rows" => k_extra "ln 15"
  k_with "N1 my_room" => k_extra "ln 16"
  k_with "N1 my_ctx" => k_extra "ln 17"
  k_with "N1 my_ctx0" => k_extra "ln 18"
  trivial

theorem lt_all {n : List (Addr × Obj)} {c d : Addr} (h : ∀ p ∈ n, p.1 < c) (k : c < d) : ∀ p ∈ n, p.1 < d := fun p hp => Nat.lt_trans (h p hp) k
def NewStore (h₀ : Heap) (L : Addr) (m : Str → Option Value) (prog : Program) (w : World) (news : List (Addr × Obj)) (f : Addr) (s : Shared) (Q : Value → Shared → Prop) : Prop :=
  ∀ h' tk' self dict st ex ev oSt oEx oEv ka kb kc kd, Fr h₀ L h' m → News h₀ L h' ((ev, oEv) :: (ex, oEx) :: (st, oSt) :: (self, instObj 704 dict) :: (dict, dictOf [ent w "clock" ka (.ref f), ent w "storage" kb (.ref st), ent w "expirations" kc (.ref ex), ent w "events" kd (.ref ev)] 4) :: news) →
    oSt.IsDictOf (strKind prog w) [] → oEx.IsDictOf (strKind prog w) [] → oEv.IsDictOf (strKind prog w) [] → (∀ p ∈ news, p.1 < dict) → dict < self → self < st → st < ex → ex < ev → Q (.ref self) { s with heap := h', toks := tk' }
set_option maxHeartbeats 4000000 in
theorem store_new_ok (B : Below A₀ base outer h₀) (F : Fr h₀ L s.heap m) (X : (kd.heap_1 w.params).In h₀) (N : News h₀ L s.heap news) (T : Top p loose mean mg mb h₀) (hk : cs.kind = .function) (hdp : dp ≤ 930) (hun : un ≤ 9380) {f : Addr} (ret : NewStore h₀ L m prog w news f s Q) :
   wpAny (model prog w) (ktrTop dp un gd cn cs L a ccd cl outer) (call (.ref 704) [.ref f]) Q E s := by
  k_steps
  walk_at "my_split"
  exact ret _ _ _ _ _ _ _ _ _ _ _ _ _ _ (by assumption) (by assumption) (by assumption) (by assumption) (by assumption) (by assumption) (by assumption) (by assumption) (by assumption) (by assumption)
def NewLim (h₀ : Heap) (L : Addr) (m : Str → Option Value) (w : World) (news : List (Addr × Obj)) (C st : Addr) (s : Shared) (Q : Value → Shared → Prop) : Prop :=
  ∀ h' tk' g d ka, Fr h₀ L h' m → News h₀ L h' ((g, instObj C d) :: (d, dictOf [ent w "storage" ka (.ref st)] 1) :: news) → (∀ p ∈ news, p.1 < d) → d < g → Q (.ref g) { s with heap := h', toks := tk' }
set_option maxHeartbeats 4000000 in
theorem lim_new_m (B : Below A₀ base outer h₀) (F : Fr h₀ L s.heap m) (X : (kd.heap_1 w.params).In h₀) (N : News h₀ L s.heap news) (T : Top p loose mean mg mb h₀) (hk : cs.kind = .function) (hdp : dp ≤ 930) (hun : un ≤ 9380) {st : Addr} (ret : NewLim h₀ L m w news 202 st s Q) :
   wpAny (model prog w) (ktrTop dp un gd cn cs L a ccd cl outer) (call (.ref 202) [.ref st]) Q E s := by
  k_steps
  walk_at "my_split"
  exact ret _ _ _ _ _ (by assumption) (by assumption) (by assumption) (by assumption)
set_option maxHeartbeats 4000000 in
theorem lim_new_f (B : Below A₀ base outer h₀) (F : Fr h₀ L s.heap m) (X : (kd.heap_1 w.params).In h₀) (N : News h₀ L s.heap news) (T : Top p loose mean mg mb h₀) (hk : cs.kind = .function) (hdp : dp ≤ 930) (hun : un ≤ 9380) {st : Addr} (ret : NewLim h₀ L m w news 241 st s Q) :
   wpAny (model prog w) (ktrTop dp un gd cn cs L a ccd cl outer) (call (.ref 241) [.ref st]) Q E s := by
  k_steps
  walk_at "my_split"
  exact ret _ _ _ _ _ (by assumption) (by assumption) (by assumption) (by assumption)
end
end
section
open Lean PySem PySem.Calls PySem.W PyProof.Rows PyProof.V PySem.Spec PyProof.Rows.LCg
local macro_rules | `(tactic| walk_at $s:str) => `(tactic| k_extra $(Lean.Syntax.mkStrLit ("R7 " ++ s.getString)))
local macro_rules | `(tactic| walk_at "none") => `(tactic| fail)
section
variable {prog : Program} {w : World} {p : Program} {loose : List Str} {mean : ExcName → Option Value} {mg mb : Str → Option Value} {dp un : Nat} {gd : Option (List Code)} {cn : Str} {cs : Scope} {a : Addr} {ccd : Value} {cl : List (Str × Addr)} {outer : List Env} {A₀ : Around} {base h₀ : Heap} {L : Addr} {m : Str → Option Value} {news : List (Addr × Obj)} {s : Shared} {Q E : Value → Shared → Prop}
theorem ln_R7_1 : True := by
  try walk1
  k_with "R7 k:k_room" => k_extra "ln 0"
  k_with "R7 k:k_enter" => k_extra "ln 1"
  k_with "R7 my_mem" => k_extra "ln 2"
  k_with "R7 k:k_mem" => k_extra "ln 3"
  k_with "R7 my_split" => k_extra "ln 4"
  k_with "R7 my_ltf" => k_extra "ln 5"
  k_with "R7 k:k_ne" => k_extra "ln 6"
  k_with "R7 my_reord" => k_extra "ln 7"
  k_with "R7 my_all" => k_extra "ln 8"
  k_with "R7 k:k_all" => k_extra "ln 9"
  k_with "R7 call builtin:len" => k_extra "ln 10"
  k_with "R7 subscriptTail" => k_extra "ln 11"
  k_with "R7 subscriptTail Name Name ref int" => k_extra "ln 11"
  k_with "R7 subscriptTail" => k_extra "ln 12"
  k_with "R7 subscriptTail Name Slice ref ref" => k_extra "ln 12"
  k_with "R7 call builtin:sum" => k_extra "ln 13"
  k_with "R7 my_rows" => k_extra "ln 15"
  k_with "R7 my_room" => k_extra "ln 16"
  k_with "R7 my_ctx" => k_extra "ln 17"
  k_with "R7 my_ctx0" => k_extra "ln 18"
  trivial

section
variable {z : Z} {oSt oEx oEv oN : Obj} {ps : Array Value} {fr rest : List (Addr × Obj)} {k0 k1 k2 : Str} {e0 e1 : List Int} {fx : Option (Int × Int)} {cap : Nat} {now : Int} {gm it tn : Addr} {amt W c n : Int} {key : Str} {t9 : Tok} {rows : List Row} {tf : Int}
theorem ev_small {A W : Int} {rows : List Row} (hW : 1 ≤ W) (hA : A ≤ 9) (hp : Paid rows) (hf : fitsM A W rows = true) (hl : rows.length ≤ 50) : (evOf rows).length ≤ 1000 := by
  have h1 := ev_len hW hp hf
  have h2 : A.toNat * rows.length ≤ 9 * 50 := Nat.mul_le_mul (by omega) hl
  omega
theorem LimOne.small {w : World} {r : List (Addr × Obj)} {n : Int} {it : Addr} {amt W : Int} {key : Str} (h : LimOne w r n it amt W key) : 1 ≤ amt ∧ amt ≤ 9 :=
  let ⟨_, _, _, _, _, _, _, _, _, a, b, _⟩ := h; ⟨a, b⟩
theorem test_eq {A W now c : Int} {rows : List Row} (hW : 1 ≤ W) (hu : Up rows) (ht : Till now rows) (hp : Paid rows) (hf : fitsM A W rows = true) :
    decide ((idx (now - W) (evOf rows) : Int) ≤ A - c) = fitsM A W (rows ++ [(now, c)]) := by
  rw [fitsM_snoc hW hu ht hp hf, idx_ev rows hu hp]
  exact decide_eq_decide.mpr (by omega)
theorem law_test0 (B : Below A₀ base outer h₀) (F : Fr h₀ L s.heap m) (X : (kd.heap_1 w.params).In h₀) (N : News h₀ L s.heap news) (T : Top p loose mean mg mb h₀) (hk : cs.kind = .function) (hdp : dp ≤ 920) (hun : un ≤ 9320) (hn : news = (z.st, oSt) :: (z.ex, oEx) :: (z.ev, oEv) :: (653, tabObj ps) :: (z.nw, oN) :: (fr ++ rest)) (hof : Offz z (fr ++ rest)) (S : StoreSt prog w z oSt oEx oEv oN ps rest k0 k1 k2 (evOf rows) e1 fx cap now)
   (hG : LimIn w rest z 202 gm) (I : LimOne w rest n it amt W k0) (hnm : NamesAt rest tn n) (hW : 1 ≤ W) (hu : Up rows) (ht : Till now rows) (hp : Paid rows) (hf : fitsM amt W rows = true) (hl : rows.length ≤ 50)
   (ret : LookR h₀ L m prog w z oSt oEx oEv oN ps fr rest k0 k1 k2 (evOf rows) e1 fx cap now (.bool (fitsM amt W (rows ++ [(now, c)]))) s Q) :
   wpAny (model prog w) (ktrTop dp un gd cn cs L a ccd cl outer) (call (.ref 190) [.ref gm, .ref it, .ref tn, .int c t9]) Q E s := by
  rw [← test_eq hW hu ht hp hf] at ret
  exact gtest_m B F X N T hk hdp hun hn hof S hG I hnm (desc_ev rows hu) (ev_small hW I.small.2 hp hf hl) ret
theorem law_test1 (B : Below A₀ base outer h₀) (F : Fr h₀ L s.heap m) (X : (kd.heap_1 w.params).In h₀) (N : News h₀ L s.heap news) (T : Top p loose mean mg mb h₀) (hk : cs.kind = .function) (hdp : dp ≤ 920) (hun : un ≤ 9320) (hn : news = (z.st, oSt) :: (z.ex, oEx) :: (z.ev, oEv) :: (653, tabObj ps) :: (z.nw, oN) :: (fr ++ rest)) (hof : Offz z (fr ++ rest)) (S : StoreSt prog w z oSt oEx oEv oN ps rest k0 k1 k2 e0 (evOf rows) fx cap now)
   (hG : LimIn w rest z 202 gm) (I : LimOne w rest n it amt W k1) (hnm : NamesAt rest tn n) (hW : 1 ≤ W) (hu : Up rows) (ht : Till now rows) (hp : Paid rows) (hf : fitsM amt W rows = true) (hl : rows.length ≤ 50)
   (ret : LookR h₀ L m prog w z oSt oEx oEv oN ps fr rest k0 k1 k2 e0 (evOf rows) fx cap now (.bool (fitsM amt W (rows ++ [(now, c)]))) s Q) :
   wpAny (model prog w) (ktrTop dp un gd cn cs L a ccd cl outer) (call (.ref 190) [.ref gm, .ref it, .ref tn, .int c t9]) Q E s := by
  rw [← test_eq hW hu ht hp hf] at ret
  exact gtest_m1 B F X N T hk hdp hun hn hof S hG I hnm (desc_ev rows hu) (ev_small hW I.small.2 hp hf hl) ret
theorem law_test2 (B : Below A₀ base outer h₀) (F : Fr h₀ L s.heap m) (X : (kd.heap_1 w.params).In h₀) (N : News h₀ L s.heap news) (T : Top p loose mean mg mb h₀) (hk : cs.kind = .function) (hdp : dp ≤ 920) (hun : un ≤ 9320) (hn : news = (z.st, oSt) :: (z.ex, oEx) :: (z.ev, oEv) :: (653, tabObj ps) :: (z.nw, oN) :: (fr ++ rest)) (hof : Offz z (fr ++ rest)) (S : StoreSt prog w z oSt oEx oEv oN ps rest k0 k1 k2 e0 e1 fx cap now)
   (hG : LimIn w rest z 241 gm) (I : LimOne w rest n it amt W k2) (hnm : NamesAt rest tn n) (hx : FxOk W rows tf fx) (htn : tf ≤ now) (hf : fitsF amt W none 0 rows = true)
   (ret : FixR h₀ L m prog w z oEv oN ps fr rest k0 k1 k2 e0 e1 (live now fx) cap now (.bool (fitsF amt W none 0 (rows ++ [(now, c)]))) s Q) :
   wpAny (model prog w) (ktrTop dp un gd cn cs L a ccd cl outer) (call (.ref 229) [.ref gm, .ref it, .ref tn, .int c t9]) Q E s := by
  have e : decide (tot (live now fx) < amt - c + 1) = fitsF amt W none 0 (rows ++ [(now, c)]) := by
    rw [fitsF_snoc hf, hx.tot htn]
    exact decide_eq_decide.mpr (by omega)
  rw [← e] at ret
  exact gtest_f B F X N T hk hdp hun hn hof S hG I hnm ret
theorem law_no0 (B : Below A₀ h₀ [] h₀) (F : Fr h₀ L s.heap m) (X : (kd.heap_1 w.params).In h₀) (N : News h₀ L s.heap news) (T : Top p loose mean mg mb h₀) (hk : cs.kind = .function) (hdp : dp ≤ 920) (hun : un ≤ 9300)
   (hn : news = (z.st, oSt) :: (z.ex, oEx) :: (z.ev, oEv) :: (653, tabObj ps) :: (z.nw, oN) :: (fr ++ rest)) (hof : Offz z (fr ++ rest)) (S : StoreSt prog w z oSt oEx oEv oN ps rest k0 k1 k2 (evOf rows) e1 fx cap now)
   (hG : LimIn w rest z 202 gm) (I : LimOne w rest n it amt W k0) (hnm : NamesAt rest tn n) (hcap : cap ≤ 1000) (hc : 1 ≤ c) (hne : k0 ≠ k1) (hW : 1 ≤ W) (hu : Up rows) (ht : Till now rows) (hp : Paid rows) (hf : fitsM amt W rows = true) (hl : rows.length ≤ 50) (hb : fitsM amt W (rows ++ [(now, c)]) = false)
   (ret : HitR h₀ L m prog w z oSt oEx oEv oN ps fr rest k0 k1 k2 (evOf rows) e1 fx (cap + 1) now false s Q) :
   wpAny (model prog w) (ktrTop dp un gd cn cs L a ccd cl []) (call (.ref 181) [.ref gm, .ref it, .ref tn, .int c t9]) Q E s := by
  refine ghit_m B F X N T hk hdp hun hn hof S hG I hnm (ev_small hW I.small.2 hp hf hl) hcap hc hne.symm ?_
  rw [acq_reject hW hu ht hp hf hb]
  exact ret
theorem law_no1 (B : Below A₀ h₀ [] h₀) (F : Fr h₀ L s.heap m) (X : (kd.heap_1 w.params).In h₀) (N : News h₀ L s.heap news) (T : Top p loose mean mg mb h₀) (hk : cs.kind = .function) (hdp : dp ≤ 920) (hun : un ≤ 9300)
   (hn : news = (z.st, oSt) :: (z.ex, oEx) :: (z.ev, oEv) :: (653, tabObj ps) :: (z.nw, oN) :: (fr ++ rest)) (hof : Offz z (fr ++ rest)) (S : StoreSt prog w z oSt oEx oEv oN ps rest k0 k1 k2 e0 (evOf rows) fx cap now)
   (hG : LimIn w rest z 202 gm) (I : LimOne w rest n it amt W k1) (hnm : NamesAt rest tn n) (hcap : cap ≤ 1000) (hc : 1 ≤ c) (hne : k0 ≠ k1) (hW : 1 ≤ W) (hu : Up rows) (ht : Till now rows) (hp : Paid rows) (hf : fitsM amt W rows = true) (hl : rows.length ≤ 50) (hb : fitsM amt W (rows ++ [(now, c)]) = false)
   (ret : HitR h₀ L m prog w z oSt oEx oEv oN ps fr rest k0 k1 k2 e0 (evOf rows) fx (cap + 1) now false s Q) :
   wpAny (model prog w) (ktrTop dp un gd cn cs L a ccd cl []) (call (.ref 181) [.ref gm, .ref it, .ref tn, .int c t9]) Q E s := by
  refine ghit_m1 B F X N T hk hdp hun hn hof S hG I hnm (ev_small hW I.small.2 hp hf hl) hcap hc hne ?_
  rw [acq_reject hW hu ht hp hf hb]
  exact ret
theorem law_yes0 (B : Below A₀ h₀ [] h₀) (F : Fr h₀ L s.heap m) (X : (kd.heap_1 w.params).In h₀) (N : News h₀ L s.heap news) (T : Top p loose mean mg mb h₀) (hk : cs.kind = .function) (hdp : dp ≤ 920) (hun : un ≤ 9300)
   (hn : news = (z.st, oSt) :: (z.ex, oEx) :: (z.ev, oEv) :: (653, tabObj ps) :: (z.nw, oN) :: (fr ++ rest)) (hof : Offz z (fr ++ rest)) (S : StoreSt prog w z oSt oEx oEv oN ps rest k0 k1 k2 (evOf rows) e1 fx cap now)
   (hG : LimIn w rest z 202 gm) (I : LimOne w rest n it amt W k0) (hnm : NamesAt rest tn n) (hcap : cap ≤ 1000) (hc : 1 ≤ c) (hne : k0 ≠ k1) (hW : 1 ≤ W) (hu : Up rows) (ht : Till now rows) (hp : Paid rows) (hf : fitsM amt W rows = true) (hl : rows.length ≤ 50) (hb : fitsM amt W (rows ++ [(now, c)]) = true) (hb' : fitsM amt (W + 1) (rows ++ [(now, c)]) = true)
   (ret : HitR h₀ L m prog w z oSt oEx oEv oN ps fr rest k0 k1 k2 (evOf (rows ++ [(now, c)])) e1 fx (cap + 1) now true s Q) :
   wpAny (model prog w) (ktrTop dp un gd cn cs L a ccd cl []) (call (.ref 181) [.ref gm, .ref it, .ref tn, .int c t9]) Q E s := by
  refine ghit_m B F X N T hk hdp hun hn hof S hG I hnm (ev_small hW I.small.2 hp hf hl) hcap hc hne.symm ?_
  rw [acq_accept hW hu ht hp hc hf hb hb']
  exact ret
theorem law_yes1 (B : Below A₀ h₀ [] h₀) (F : Fr h₀ L s.heap m) (X : (kd.heap_1 w.params).In h₀) (N : News h₀ L s.heap news) (T : Top p loose mean mg mb h₀) (hk : cs.kind = .function) (hdp : dp ≤ 920) (hun : un ≤ 9300)
   (hn : news = (z.st, oSt) :: (z.ex, oEx) :: (z.ev, oEv) :: (653, tabObj ps) :: (z.nw, oN) :: (fr ++ rest)) (hof : Offz z (fr ++ rest)) (S : StoreSt prog w z oSt oEx oEv oN ps rest k0 k1 k2 e0 (evOf rows) fx cap now)
   (hG : LimIn w rest z 202 gm) (I : LimOne w rest n it amt W k1) (hnm : NamesAt rest tn n) (hcap : cap ≤ 1000) (hc : 1 ≤ c) (hne : k0 ≠ k1) (hW : 1 ≤ W) (hu : Up rows) (ht : Till now rows) (hp : Paid rows) (hf : fitsM amt W rows = true) (hl : rows.length ≤ 50) (hb : fitsM amt W (rows ++ [(now, c)]) = true) (hb' : fitsM amt (W + 1) (rows ++ [(now, c)]) = true)
   (ret : HitR h₀ L m prog w z oSt oEx oEv oN ps fr rest k0 k1 k2 e0 (evOf (rows ++ [(now, c)])) fx (cap + 1) now true s Q) :
   wpAny (model prog w) (ktrTop dp un gd cn cs L a ccd cl []) (call (.ref 181) [.ref gm, .ref it, .ref tn, .int c t9]) Q E s := by
  refine ghit_m1 B F X N T hk hdp hun hn hof S hG I hnm (ev_small hW I.small.2 hp hf hl) hcap hc hne ?_
  rw [acq_accept hW hu ht hp hc hf hb hb']
  exact ret
theorem law_yes2 (B : Below A₀ base outer h₀) (F : Fr h₀ L s.heap m) (X : (kd.heap_1 w.params).In h₀) (N : News h₀ L s.heap news) (T : Top p loose mean mg mb h₀) (hk : cs.kind = .function) (hdp : dp ≤ 920) (hun : un ≤ 9320) (hn : news = (z.st, oSt) :: (z.ex, oEx) :: (z.ev, oEv) :: (653, tabObj ps) :: (z.nw, oN) :: (fr ++ rest)) (hof : Offz z (fr ++ rest)) (S : StoreSt prog w z oSt oEx oEv oN ps rest k0 k1 k2 e0 e1 fx cap now)
   (hG : LimIn w rest z 241 gm) (I : LimOne w rest n it amt W k2) (hnm : NamesAt rest tn n) (hx : FxOk W rows tf fx) (htn : tf ≤ now) (hp : Paid rows) (hf : fitsF amt W none 0 rows = true) (hb : fitsF amt W none 0 (rows ++ [(now, c)]) = true)
   (ret : FixR h₀ L m prog w z oEv oN ps fr rest k0 k1 k2 e0 e1 (bump now W c (live now fx)) cap now (.bool true) s Q) :
   wpAny (model prog w) (ktrTop dp un gd cn cs L a ccd cl outer) (call (.ref 220) [.ref gm, .ref it, .ref tn, .int c t9]) Q E s := by
  have e : decide (tot (bump now W c (live now fx)) ≤ amt) = true := by
    rw [fitsF_snoc hf, decide_eq_true_eq] at hb
    rw [bump_tot hx htn, decide_eq_true_eq]
    exact hb
  rw [← e] at ret
  exact ghit_f B F X N T hk hdp hun hn hof S hG I hnm (hx.pos htn hp) ret
end
end
end
section
open Lean PySem PySem.Calls PySem.W PyProof.Rows PyProof.V PySem.Spec PyProof.Rows.LCg
local macro_rules | `(tactic| walk_at $s:str) => `(tactic| k_extra $(Lean.Syntax.mkStrLit ("LJ " ++ s.getString)))
section
variable {prog : Program} {w : World} {p : Program} {loose : List Str} {mean : ExcName → Option Value} {mg mb : Str → Option Value} {dp un : Nat} {gd : Option (List Code)} {cn : Str} {cs : Scope} {a : Addr} {ccd : Value} {cl : List (Str × Addr)} {outer : List Env} {A₀ : Around} {base h₀ : Heap} {L : Addr} {m : Str → Option Value} {news : List (Addr × Obj)} {s : Shared} {Q E : Value → Shared → Prop}
theorem ln_LJ_1 : True := by
  try walk1
  k_with "LJ k:k_room" => k_extra "ln 0"
  k_with "LJ k:k_enter" => k_extra "ln 1"
  k_with "LJ my_mem" => k_extra "ln 2"
  k_with "LJ k:k_mem" => k_extra "ln 3"
  k_with "LJ my_split" => k_extra "ln 4"
  k_with "LJ my_ltf" => k_extra "ln 5"
  k_with "LJ k:k_ne" => k_extra "ln 6"
  k_with "LJ my_reord" => k_extra "ln 7"
  k_with "LJ my_all" => k_extra "ln 8"
  k_with "LJ k:k_all" => k_extra "ln 9"
  k_with "LJ call builtin:len" => k_extra "ln 10"
  k_with "LJ subscriptTail" => k_extra "ln 11"
  k_with "LJ subscriptTail Name Name ref int" => k_extra "ln 11"
  k_with "LJ subscriptTail" => k_extra "ln 12"
  k_with "LJ subscriptTail Name Slice ref ref" => k_extra "ln 12"
  k_with "LJ call builtin:sum" => k_extra "ln 13"
  k_with "LJ my_rows" => k_extra "ln 15"
  k_with "LJ my_room" => k_extra "ln 16"
  k_with "LJ my_ctx" => k_extra "ln 17"
  k_with "LJ my_ctx0" => k_extra "ln 18"
  k_with "LJ my_reord" => k_extra "ln 7"
  trivial

def Has : List (Str × Value) → (Str → Option Value) → Prop
  | [], _ => True
  | p :: r, m => m p.1 = some p.2 ∧ Has r m
theorem Has.all : ∀ {ps : List (Str × Value)} {m : Str → Option Value}, Has ps m → ∀ p ∈ ps, m p.1 = some p.2
  | [], _, _, _, h => nomatch h
  | _ :: _, _, ⟨a, b⟩, p, h => (List.mem_cons.mp h).elim (fun e => e ▸ a) (Has.all b p)
/-- the lambda of the law over the cell of the list that the store's clock reads -/
inductive ClockAt (led : List (Addr × Obj)) (fC cN nw : Addr) : Prop
  | mk (name qual : Str) (pm ctv : Value) (c' : Addr) (oc oN : Obj) (vs : Array Value) (tq : Tok) (kk : Nat) (p1 p2 p3 : Pos) (q0 : (fC, kla_obj name qual { posonlyargs := [], args := [], vararg := none, kwonlyargs := [], kw_defaults := [], kwarg := none, defaults := [] }
      (PySem.Expr.Subscript (PySem.Expr.Name nowX p1) (PySem.Expr.Constant (Const.int 0) kk p2) p3)
      { kind := ScopeKind.function, names := [(nowX, NameKind.free)], isGenerator := false, isCoroutine := false, more := [] } [(nowX, cN)] pm c' ctv) ∈ led) (q1 : (c', oc) ∈ led) (q2 : oc.data = .fields vs) (q3 : vs[1]? = some (.str qual tq)) (q4 : (cN, oN) ∈ led) (q5 : oN.data = .cell (some (.ref nw))) : ClockAt led fC cN nw
theorem ClockAt.mono {n n' : List (Addr × Obj)} {f c a : Addr} (h : ClockAt n f c a) (hs : ∀ p ∈ n, p ∈ n') : ClockAt n' f c a := by
  obtain ⟨name, qual, pm, ctv, c', oc, oN, vs, tq, kk, p1, p2, p3, h1, h2, h3, h4, h5, h6⟩ := h
  exact ⟨name, qual, pm, ctv, c', oc, oN, vs, tq, kk, p1, p2, p3, hs _ h1, hs _ h2, h3, h4, hs _ h5, h6⟩
theorem ClockAt.clock {rest : List (Addr × Obj)} {f c a : Addr} {t : Int} {tk : Tok} {nn : Nat} (h : ClockAt rest f c a) : ClockIn ((a, listOf #[.int t tk] nn) :: rest) f t := by
  obtain ⟨name, qual, pm, ctv, c', oc, oN, vs, tq, kk, p1, p2, p3, h1, h2, h3, h4, h5, h6⟩ := h
  exact ⟨name, qual, pm, ctv, c', c, a, oc, oN, vs, tq, tk, nn, kk, p1, p2, p3, .tail _ h1, .tail _ h2, h3, h4, .tail _ h5, h6, .head _⟩
theorem ClockAt.cell {rest : List (Addr × Obj)} {f c a : Addr} (h : ClockAt rest f c a) : ∃ oN : Obj, (c, oN) ∈ rest ∧ oN.data = .cell (some (.ref a)) := by
  obtain ⟨name, qual, pm, ctv, c', oc, oN, vs, tq, kk, p1, p2, p3, h1, h2, h3, h4, h5, h6⟩ := h
  exact ⟨oN, h5, h6⟩
section
variable {z : Z} {oSt oEx oEv oN : Obj} {ps : Array Value} {fr rest : List (Addr × Obj)} {k0 k1 k2 : Str} {e0 e1 : List Int} {fx : Option (Int × Int)} {cap cap' : Nat} {now : Int}
theorem StoreSt.tick {cN : Addr} {now' : Int} {tk : Tok} {nn : Nat} (S : StoreSt prog w z oSt oEx oEv oN ps rest k0 k1 k2 e0 e1 fx cap now) (h : ClockAt rest z.clk cN z.nw) :
    StoreSt prog w z oSt oEx oEv (listOf #[.int now' tk] nn) ps rest k0 k1 k2 e0 e1 fx cap now' := { S with hC := h.clock }
theorem StoreSt.more (S : StoreSt prog w z oSt oEx oEv oN ps rest k0 k1 k2 e0 e1 fx cap now) (h : cap ≤ cap') : StoreSt prog w z oSt oEx oEv oN ps rest k0 k1 k2 e0 e1 fx cap' now :=
  { S with dv := let ⟨kV, a, b, c⟩ := S.dv; ⟨kV, a, Nat.le_trans b h, c⟩ }
end
/-- what the law has made ahead of its loop -/
structure Y where (gm gf ga tl tn a0 a1 a2 i0 i1 i2 cN nl : Addr) (A0 W0 A1 W1 A2 W2 n : Int) (k0 k1 k2 : Str) (tb tw tf : Tok) (nvs : List Value)
structure LawIn (w : World) (z : Z) (y : Y) (rest : List (Addr × Obj)) : Prop where
  gm : LimIn w rest z 202 y.gm
  gf : LimIn w rest z 241 y.gf
  i0 : LimOne w rest y.n y.i0 y.A0 y.W0 y.k0
  i1 : LimOne w rest y.n y.i1 y.A1 y.W1 y.k1
  i2 : LimOne w rest y.n y.i2 y.A2 y.W2 y.k2
  nm : NamesAt rest y.tn y.n
  ga : ∃ k, (y.ga, tup [.ref y.gm, .ref y.gm, .ref y.gf] k) ∈ rest
  tl : ∃ k, (y.tl, tup [.ref y.a0, .ref y.a1, .ref y.a2] k) ∈ rest
  h0 : ∃ k t u, (y.a0, tup [.ref y.i0, .int y.A0 t, .int y.W0 u] k) ∈ rest
  h1 : ∃ k t u, (y.a1, tup [.ref y.i1, .int y.A1 t, .int y.W1 u] k) ∈ rest
  h2 : ∃ k t u, (y.a2, tup [.ref y.i2, .int y.A2 t, .int y.W2 u] k) ∈ rest
  ne : y.k0 ≠ y.k1
  w0 : 1 ≤ y.W0
  w1 : 1 ≤ y.W1
  w2 : 1 ≤ y.W2
  ck : ClockAt rest z.clk y.cN z.nw
  nu : (y.nl, listOf y.nvs.toArray 0) ∈ rest
  tb : ∃ q, (746, tabObj q) ∈ rest
theorem LawIn.mono {w : World} {z : Z} {y : Y} {r r' : List (Addr × Obj)} (h : LawIn w z y r) (hs : ∀ p ∈ r, p ∈ r') : LawIn w z y r' :=
  ⟨h.gm.mono hs, h.gf.mono hs, h.i0.mono hs, h.i1.mono hs, h.i2.mono hs, h.nm.mono hs, let ⟨k, a⟩ := h.ga; ⟨k, hs _ a⟩, let ⟨k, a⟩ := h.tl; ⟨k, hs _ a⟩, let ⟨k, t, u, a⟩ := h.h0; ⟨k, t, u, hs _ a⟩, let ⟨k, t, u, a⟩ := h.h1; ⟨k, t, u, hs _ a⟩, let ⟨k, t, u, a⟩ := h.h2; ⟨k, t, u, hs _ a⟩, h.ne, h.w0, h.w1, h.w2, h.ck.mono hs, hs _ h.nu, let ⟨q, a⟩ := h.tb; ⟨q, hs _ a⟩⟩
structure RowsOk (y : Y) (now : Int) (rows : List Row) : Prop where
  up : Up rows
  till : Till now rows
  paid : Paid rows
  f0 : fitsM y.A0 y.W0 rows = true
  f1 : fitsM y.A1 y.W1 rows = true
  f2 : fitsF y.A2 y.W2 none 0 rows = true
theorem RowsOk.tick {y : Y} {now now' : Int} {rows : List Row} (h : RowsOk y now rows) (hn : now ≤ now') : RowsOk y now' rows :=
  ⟨h.up, fun r hr => Int.le_trans (h.till r hr) hn, h.paid, h.f0, h.f1, h.f2⟩
theorem RowsOk.snoc {y : Y} {now c : Int} {rows : List Row} (h : RowsOk y now rows) (hc : 1 ≤ c) (f0 : fitsM y.A0 y.W0 (rows ++ [(now, c)]) = true) (f1 : fitsM y.A1 y.W1 (rows ++ [(now, c)]) = true) (f2 : fitsF y.A2 y.W2 none 0 (rows ++ [(now, c)]) = true) : RowsOk y now (rows ++ [(now, c)]) := by
  refine ⟨List.pairwise_append.mpr ⟨h.up, List.pairwise_singleton _ _, fun a ha b hb => ?_⟩, fun r hr => ?_, fun r hr => ?_, f0, f1, f2⟩
  · rw [List.mem_singleton.mp hb]; exact h.till a ha
  · rcases List.mem_append.mp hr with hr | hr
    · exact h.till r hr
    · rw [List.mem_singleton.mp hr]; exact Int.le_refl _
  · rcases List.mem_append.mp hr with hr | hr
    · exact h.paid r hr
    · rw [List.mem_singleton.mp hr]; exact hc
/-- the state between the law's turns -/
inductive LawJ (prog : Program) (w : World) (z : Z) (y : Y) (i : Nat) (m : Str → Option Value) (nx : List (Addr × Obj)) : Prop
  | mk (oSt : _) (oEx : _) (oEv : _) (ps : _) (rest : _) (l : _) (vs : _) (nn : _) (rows : _) (fx : _) (now : _) (tk : _) (n' : _) (t0 : _) (q0 : Has [(Str.ofString "limits", .ref y.tl), (Str.ofString "brief", .int y.W0 y.tb), (Str.ofString "wide", .int y.W1 y.tw), (Str.ofString "frame", .int y.W2 y.tf), (Str.ofString "moving", .ref y.gm), (Str.ofString "gate", .ref y.ga), (Str.ofString "names", .ref y.tn), (Str.ofString "came", .ref l)] m) (q1 : nx = (z.st, oSt) :: (z.ex, oEx) :: (z.ev, oEv) :: (653, tabObj ps) :: (z.nw, listOf #[.int now tk] n') :: rest) (q2 : LawIn w z y rest) (q3 : StoreSt prog w z oSt oEx oEv (listOf #[.int now tk] n') ps rest y.k0 y.k1 y.k2 (evOf rows) (evOf rows) fx (10 * i) now) (q4 : (l, listOf vs.toArray nn) ∈ rest) (q5 : RowsAre rest vs rows) (q6 : rows.length ≤ i) (q7 : RowsOk y now rows) (q8 : FxOk y.W2 rows t0 fx) (q9 : t0 ≤ now) : LawJ prog w z y i m nx
theorem LawJ.keep {z : Z} {y : Y} {i : Nat} {m : Str → Option Value} {nx : List (Addr × Obj)} (h : LawJ prog w z y i m nx) : (y.nl, listOf y.nvs.toArray 0) ∈ nx := by
  obtain ⟨oSt, oEx, oEv, ps, rest, l, vs, nn, rows, fx, now, tk, n', t0, _, rfl, h, _⟩ := h
  exact .tail _ (.tail _ (.tail _ (.tail _ (.tail _ h.nu))))
section
variable {rest : List (Addr × Obj)} {h : Heap} {l' Dn Dg gf df gm dm ev ex st self sd fC c' nw tl r0 it0 d0 r1 it1 d1 r2 it2 d2 nl cN C0 C1 C2 g0 g1 g2 : Addr} {oSt oEx oEv oc oN : Obj} {x1 x2 : Addr × Obj} {q3 : Array Value} {nn ng nt n0 n1 n2 kk : Nat} {t1 t2 kf km ka kb kc kd tq tk u0 v0 u1 v1 u2 v2 a0 a1 a2 b0 b1 b2 c0 c1 c2 p0 p1 p2 q0 q1 q2 : Tok}
  {n now A0 A1 A2 W0 W1 W2 mul0 mul1 mul2 sec0 sec1 sec2 : Int} {nm0 nm1 nm2 name qual : Str} {pm ctv : Value} {vs : Array Value} {e1 e2 e3 : Pos} {nvs : List Value}
abbrev limT (it : Addr) (A W : Int) (u v : Tok) (k : Nat) : Obj := { cls := .type "tuple", data := .seq #[.ref it, .int A u, .int W v] k }
theorem law_start (_F : Fr h₀ L h m)
   (N : News h₀ L h [(l', listOf #[] 0), (Dn, { cls := .type "tuple", data := .seq #[.str (Str.ofString "ann") t1, .int n t2] nn }), (Dg, tup [.ref gm, .ref gm, .ref gf] ng), (gf, instObj 241 df), (df, dictOf [ent w "storage" kf (.ref self)] 1), (gm, instObj 202 dm), (dm, dictOf [ent w "storage" km (.ref self)] 1),
     (ev, oEv), (ex, oEx), (st, oSt), (self, instObj 704 sd), (sd, dictOf [ent w "clock" ka (.ref fC), ent w "storage" kb (.ref st), ent w "expirations" kc (.ref ex), ent w "events" kd (.ref ev)] 4),
     (fC, kla_obj name qual { posonlyargs := [], args := [], vararg := none, kwonlyargs := [], kw_defaults := [], kwarg := none, defaults := [] } (PySem.Expr.Subscript (PySem.Expr.Name nowX e1) (PySem.Expr.Constant (Const.int 0) kk e2) e3)
        { kind := ScopeKind.function, names := [(nowX, NameKind.free)], isGenerator := false, isCoroutine := false, more := [] } [(nowX, cN)] pm c' ctv), (c', oc), (nw, listOf #[.int now tk] 0),
     (tl, tup [.ref r0, .ref r1, .ref r2] nt), (r2, limT it2 A2 W2 u2 v2 n2), (it2, instObj C2 d2), (d2, itemDict w a2 b2 c2 p2 q2 A2 mul2), (r1, limT it1 A1 W1 u1 v1 n1), (it1, instObj C1 d1), (d1, itemDict w a1 b1 c1 p1 q1 A1 mul1), (r0, limT it0 A0 W0 u0 v0 n0), (it0, instObj C0 d0), (d0, itemDict w a0 b0 c0 p0 q0 A0 mul0),
     (nl, listOf nvs.toArray 0), x1, x2, (cN, oN), (653, tabObj #[]), (746, tabObj q3)])
   (hd : DistN 15 [(l', listOf #[] 0), (Dn, { cls := .type "tuple", data := .seq #[.str (Str.ofString "ann") t1, .int n t2] nn }), (Dg, tup [.ref gm, .ref gm, .ref gf] ng), (gf, instObj 241 df), (df, dictOf [ent w "storage" kf (.ref self)] 1), (gm, instObj 202 dm), (dm, dictOf [ent w "storage" km (.ref self)] 1),      (ev, oEv), (ex, oEx), (st, oSt), (self, instObj 704 sd), (sd, dictOf [ent w "clock" ka (.ref fC), ent w "storage" kb (.ref st), ent w "expirations" kc (.ref ex), ent w "events" kd (.ref ev)] 4),      (fC, kla_obj name qual { posonlyargs := [], args := [], vararg := none, kwonlyargs := [], kw_defaults := [], kwarg := none, defaults := [] } (PySem.Expr.Subscript (PySem.Expr.Name nowX e1) (PySem.Expr.Constant (Const.int 0) kk e2) e3)         { kind := ScopeKind.function, names := [(nowX, NameKind.free)], isGenerator := false, isCoroutine := false, more := [] } [(nowX, cN)] pm c' ctv), (c', oc), (nw, listOf #[.int now tk] 0),      (tl, tup [.ref r0, .ref r1, .ref r2] nt), (r2, limT it2 A2 W2 u2 v2 n2), (it2, instObj C2 d2), (d2, itemDict w a2 b2 c2 p2 q2 A2 mul2), (r1, limT it1 A1 W1 u1 v1 n1), (it1, instObj C1 d1), (d1, itemDict w a1 b1 c1 p1 q1 A1 mul1), (r0, limT it0 A0 W0 u0 v0 n0), (it0, instObj C0 d0), (d0, itemDict w a0 b0 c0 p0 q0 A0 mul0),      (nl, listOf nvs.toArray 0), x1, x2, (cN, oN), (653, tabObj #[]), (746, tabObj q3)]) (h653 : ∀ p ∈ ([(tl, tup [.ref r0, .ref r1, .ref r2] nt), (r2, limT it2 A2 W2 u2 v2 n2), (it2, instObj C2 d2), (d2, itemDict w a2 b2 c2 p2 q2 A2 mul2), (r1, limT it1 A1 W1 u1 v1 n1), (it1, instObj C1 d1), (d1, itemDict w a1 b1 c1 p1 q1 A1 mul1), (r0, limT it0 A0 W0 u0 v0 n0), (it0, instObj C0 d0), (d0, itemDict w a0 b0 c0 p0 q0 A0 mul0),      (nl, listOf nvs.toArray 0), x1, x2, (cN, oN), (746, tabObj q3)] : List (Addr × Obj)), p.1 ≠ 653) (s1 : 653 < st) (s2 : 653 < ex) (s3 : 653 < ev)
   (hr : rest = [(l', listOf #[] 0), (Dn, { cls := .type "tuple", data := .seq #[.str (Str.ofString "ann") t1, .int n t2] nn }), (Dg, tup [.ref gm, .ref gm, .ref gf] ng), (gf, instObj 241 df), (df, dictOf [ent w "storage" kf (.ref self)] 1), (gm, instObj 202 dm), (dm, dictOf [ent w "storage" km (.ref self)] 1),
     (self, instObj 704 sd), (sd, dictOf [ent w "clock" ka (.ref fC), ent w "storage" kb (.ref st), ent w "expirations" kc (.ref ex), ent w "events" kd (.ref ev)] 4),
     (fC, kla_obj name qual { posonlyargs := [], args := [], vararg := none, kwonlyargs := [], kw_defaults := [], kwarg := none, defaults := [] } (PySem.Expr.Subscript (PySem.Expr.Name nowX e1) (PySem.Expr.Constant (Const.int 0) kk e2) e3)
        { kind := ScopeKind.function, names := [(nowX, NameKind.free)], isGenerator := false, isCoroutine := false, more := [] } [(nowX, cN)] pm c' ctv), (c', oc),
     (tl, tup [.ref r0, .ref r1, .ref r2] nt), (r2, limT it2 A2 W2 u2 v2 n2), (it2, instObj C2 d2), (d2, itemDict w a2 b2 c2 p2 q2 A2 mul2), (r1, limT it1 A1 W1 u1 v1 n1), (it1, instObj C1 d1), (d1, itemDict w a1 b1 c1 p1 q1 A1 mul1), (r0, limT it0 A0 W0 u0 v0 n0), (it0, instObj C0 d0), (d0, itemDict w a0 b0 c0 p0 q0 A0 mul0),
     (nl, listOf nvs.toArray 0), x1, x2, (cN, oN), (746, tabObj q3)])
   (dSt : oSt.IsDictOf (strKind prog w) []) (dEx : oEx.IsDictOf (strKind prog w) []) (dEv : oEv.IsDictOf (strKind prog w) []) (hc1 : oc.data = .fields vs) (hc2 : vs[1]? = some (.str qual tq)) (hcN : oN.data = .cell (some (.ref nw)))
   (K0 : Kind C0 g0 sec0 nm0) (K1 : Kind C1 g1 sec1 nm1) (K2 : Kind C2 g2 sec2 nm2) (hW0 : W0 = sec0 * mul0) (hW1 : W1 = sec1 * mul1) (hW2 : W2 = sec2 * mul2)
   (hm0 : 1 ≤ mul0 ∧ mul0 ≤ 5) (hm1 : 1 ≤ mul1 ∧ mul1 ≤ 5) (hm2 : 1 ≤ mul2 ∧ mul2 ≤ 5) (hA0 : 1 ≤ A0 ∧ A0 ≤ 4) (hA1 : 5 ≤ A1 ∧ A1 ≤ 9) (hA2 : 1 ≤ A2 ∧ A2 ≤ 9) (hn : 0 ≤ n ∧ n ≤ 63)
   (hm : Has [(Str.ofString "limits", .ref tl), (Str.ofString "brief", .int W0 v0), (Str.ofString "wide", .int W1 v1), (Str.ofString "frame", .int W2 v2), (Str.ofString "moving", .ref gm), (Str.ofString "gate", .ref Dg), (Str.ofString "names", .ref Dn), (Str.ofString "came", .ref l')] m) :
   ∃ z y led, y.nl = nl ∧ y.nvs = nvs ∧ y.cN = cN ∧ News h₀ L h led ∧ LawJ prog w z y 0 m led := by
  have hz : Okz ⟨st, ex, ev, nw, self, sd, fC⟩ := ⟨dist_ne hd 8 9 rfl rfl rfl, dist_ne hd 7 9 rfl rfl rfl, (dist_ne hd 9 14 rfl rfl rfl).symm, dist_ne hd 7 8 rfl rfl rfl, (dist_ne hd 8 14 rfl rfl rfl).symm, (dist_ne hd 7 14 rfl rfl rfl).symm, (dist_ne hd 9 29 rfl rfl rfl).symm, (dist_ne hd 8 29 rfl rfl rfl).symm, (dist_ne hd 7 29 rfl rfl rfl).symm, (dist_ne hd 14 29 rfl rfl rfl).symm, not_sys s1, not_sys s2, not_sys s3⟩
  have ho : Offz ⟨st, ex, ev, nw, self, sd, fC⟩ rest := by
    subst hr
    exact ⟨List.forall_mem_cons.mpr ⟨(dist_ne hd 0 9 rfl rfl rfl).symm, List.forall_mem_cons.mpr ⟨(dist_ne hd 1 9 rfl rfl rfl).symm, List.forall_mem_cons.mpr ⟨(dist_ne hd 2 9 rfl rfl rfl).symm, List.forall_mem_cons.mpr ⟨(dist_ne hd 3 9 rfl rfl rfl).symm, List.forall_mem_cons.mpr ⟨(dist_ne hd 4 9 rfl rfl rfl).symm, List.forall_mem_cons.mpr ⟨(dist_ne hd 5 9 rfl rfl rfl).symm, List.forall_mem_cons.mpr ⟨(dist_ne hd 6 9 rfl rfl rfl).symm, List.forall_mem_cons.mpr ⟨dist_ne hd 9 10 rfl rfl rfl, List.forall_mem_cons.mpr ⟨dist_ne hd 9 11 rfl rfl rfl, List.forall_mem_cons.mpr ⟨dist_ne hd 9 12 rfl rfl rfl, List.forall_mem_cons.mpr ⟨dist_ne hd 9 13 rfl rfl rfl, List.forall_mem_cons.mpr ⟨dist_ne hd 9 15 rfl rfl rfl, List.forall_mem_cons.mpr ⟨dist_ne hd 9 16 rfl rfl rfl, List.forall_mem_cons.mpr ⟨dist_ne hd 9 17 rfl rfl rfl, List.forall_mem_cons.mpr ⟨dist_ne hd 9 18 rfl rfl rfl, List.forall_mem_cons.mpr ⟨dist_ne hd 9 19 rfl rfl rfl, List.forall_mem_cons.mpr ⟨dist_ne hd 9 20 rfl rfl rfl, List.forall_mem_cons.mpr ⟨dist_ne hd 9 21 rfl rfl rfl, List.forall_mem_cons.mpr ⟨dist_ne hd 9 22 rfl rfl rfl, List.forall_mem_cons.mpr ⟨dist_ne hd 9 23 rfl rfl rfl, List.forall_mem_cons.mpr ⟨dist_ne hd 9 24 rfl rfl rfl, List.forall_mem_cons.mpr ⟨dist_ne hd 9 25 rfl rfl rfl, List.forall_mem_cons.mpr ⟨dist_ne hd 9 26 rfl rfl rfl, List.forall_mem_cons.mpr ⟨dist_ne hd 9 27 rfl rfl rfl, List.forall_mem_cons.mpr ⟨dist_ne hd 9 28 rfl rfl rfl, List.forall_mem_cons.mpr ⟨dist_ne hd 9 30 rfl rfl rfl, List.forall_mem_nil _⟩⟩⟩⟩⟩⟩⟩⟩⟩⟩⟩⟩⟩⟩⟩⟩⟩⟩⟩⟩⟩⟩⟩⟩⟩⟩,
      List.forall_mem_cons.mpr ⟨(dist_ne hd 0 8 rfl rfl rfl).symm, List.forall_mem_cons.mpr ⟨(dist_ne hd 1 8 rfl rfl rfl).symm, List.forall_mem_cons.mpr ⟨(dist_ne hd 2 8 rfl rfl rfl).symm, List.forall_mem_cons.mpr ⟨(dist_ne hd 3 8 rfl rfl rfl).symm, List.forall_mem_cons.mpr ⟨(dist_ne hd 4 8 rfl rfl rfl).symm, List.forall_mem_cons.mpr ⟨(dist_ne hd 5 8 rfl rfl rfl).symm, List.forall_mem_cons.mpr ⟨(dist_ne hd 6 8 rfl rfl rfl).symm, List.forall_mem_cons.mpr ⟨dist_ne hd 8 10 rfl rfl rfl, List.forall_mem_cons.mpr ⟨dist_ne hd 8 11 rfl rfl rfl, List.forall_mem_cons.mpr ⟨dist_ne hd 8 12 rfl rfl rfl, List.forall_mem_cons.mpr ⟨dist_ne hd 8 13 rfl rfl rfl, List.forall_mem_cons.mpr ⟨dist_ne hd 8 15 rfl rfl rfl, List.forall_mem_cons.mpr ⟨dist_ne hd 8 16 rfl rfl rfl, List.forall_mem_cons.mpr ⟨dist_ne hd 8 17 rfl rfl rfl, List.forall_mem_cons.mpr ⟨dist_ne hd 8 18 rfl rfl rfl, List.forall_mem_cons.mpr ⟨dist_ne hd 8 19 rfl rfl rfl, List.forall_mem_cons.mpr ⟨dist_ne hd 8 20 rfl rfl rfl, List.forall_mem_cons.mpr ⟨dist_ne hd 8 21 rfl rfl rfl, List.forall_mem_cons.mpr ⟨dist_ne hd 8 22 rfl rfl rfl, List.forall_mem_cons.mpr ⟨dist_ne hd 8 23 rfl rfl rfl, List.forall_mem_cons.mpr ⟨dist_ne hd 8 24 rfl rfl rfl, List.forall_mem_cons.mpr ⟨dist_ne hd 8 25 rfl rfl rfl, List.forall_mem_cons.mpr ⟨dist_ne hd 8 26 rfl rfl rfl, List.forall_mem_cons.mpr ⟨dist_ne hd 8 27 rfl rfl rfl, List.forall_mem_cons.mpr ⟨dist_ne hd 8 28 rfl rfl rfl, List.forall_mem_cons.mpr ⟨dist_ne hd 8 30 rfl rfl rfl, List.forall_mem_nil _⟩⟩⟩⟩⟩⟩⟩⟩⟩⟩⟩⟩⟩⟩⟩⟩⟩⟩⟩⟩⟩⟩⟩⟩⟩⟩,
      List.forall_mem_cons.mpr ⟨(dist_ne hd 0 7 rfl rfl rfl).symm, List.forall_mem_cons.mpr ⟨(dist_ne hd 1 7 rfl rfl rfl).symm, List.forall_mem_cons.mpr ⟨(dist_ne hd 2 7 rfl rfl rfl).symm, List.forall_mem_cons.mpr ⟨(dist_ne hd 3 7 rfl rfl rfl).symm, List.forall_mem_cons.mpr ⟨(dist_ne hd 4 7 rfl rfl rfl).symm, List.forall_mem_cons.mpr ⟨(dist_ne hd 5 7 rfl rfl rfl).symm, List.forall_mem_cons.mpr ⟨(dist_ne hd 6 7 rfl rfl rfl).symm, List.forall_mem_cons.mpr ⟨dist_ne hd 7 10 rfl rfl rfl, List.forall_mem_cons.mpr ⟨dist_ne hd 7 11 rfl rfl rfl, List.forall_mem_cons.mpr ⟨dist_ne hd 7 12 rfl rfl rfl, List.forall_mem_cons.mpr ⟨dist_ne hd 7 13 rfl rfl rfl, List.forall_mem_cons.mpr ⟨dist_ne hd 7 15 rfl rfl rfl, List.forall_mem_cons.mpr ⟨dist_ne hd 7 16 rfl rfl rfl, List.forall_mem_cons.mpr ⟨dist_ne hd 7 17 rfl rfl rfl, List.forall_mem_cons.mpr ⟨dist_ne hd 7 18 rfl rfl rfl, List.forall_mem_cons.mpr ⟨dist_ne hd 7 19 rfl rfl rfl, List.forall_mem_cons.mpr ⟨dist_ne hd 7 20 rfl rfl rfl, List.forall_mem_cons.mpr ⟨dist_ne hd 7 21 rfl rfl rfl, List.forall_mem_cons.mpr ⟨dist_ne hd 7 22 rfl rfl rfl, List.forall_mem_cons.mpr ⟨dist_ne hd 7 23 rfl rfl rfl, List.forall_mem_cons.mpr ⟨dist_ne hd 7 24 rfl rfl rfl, List.forall_mem_cons.mpr ⟨dist_ne hd 7 25 rfl rfl rfl, List.forall_mem_cons.mpr ⟨dist_ne hd 7 26 rfl rfl rfl, List.forall_mem_cons.mpr ⟨dist_ne hd 7 27 rfl rfl rfl, List.forall_mem_cons.mpr ⟨dist_ne hd 7 28 rfl rfl rfl, List.forall_mem_cons.mpr ⟨dist_ne hd 7 30 rfl rfl rfl, List.forall_mem_nil _⟩⟩⟩⟩⟩⟩⟩⟩⟩⟩⟩⟩⟩⟩⟩⟩⟩⟩⟩⟩⟩⟩⟩⟩⟩⟩,
      List.forall_mem_cons.mpr ⟨(dist_ne hd 0 29 rfl rfl rfl).symm, List.forall_mem_cons.mpr ⟨(dist_ne hd 1 29 rfl rfl rfl).symm, List.forall_mem_cons.mpr ⟨(dist_ne hd 2 29 rfl rfl rfl).symm, List.forall_mem_cons.mpr ⟨(dist_ne hd 3 29 rfl rfl rfl).symm, List.forall_mem_cons.mpr ⟨(dist_ne hd 4 29 rfl rfl rfl).symm, List.forall_mem_cons.mpr ⟨(dist_ne hd 5 29 rfl rfl rfl).symm, List.forall_mem_cons.mpr ⟨(dist_ne hd 6 29 rfl rfl rfl).symm, List.forall_mem_cons.mpr ⟨(dist_ne hd 10 29 rfl rfl rfl).symm, List.forall_mem_cons.mpr ⟨(dist_ne hd 11 29 rfl rfl rfl).symm, List.forall_mem_cons.mpr ⟨(dist_ne hd 12 29 rfl rfl rfl).symm, List.forall_mem_cons.mpr ⟨(dist_ne hd 13 29 rfl rfl rfl).symm, h653⟩⟩⟩⟩⟩⟩⟩⟩⟩⟩⟩,
      List.forall_mem_cons.mpr ⟨(dist_ne hd 0 14 rfl rfl rfl).symm, List.forall_mem_cons.mpr ⟨(dist_ne hd 1 14 rfl rfl rfl).symm, List.forall_mem_cons.mpr ⟨(dist_ne hd 2 14 rfl rfl rfl).symm, List.forall_mem_cons.mpr ⟨(dist_ne hd 3 14 rfl rfl rfl).symm, List.forall_mem_cons.mpr ⟨(dist_ne hd 4 14 rfl rfl rfl).symm, List.forall_mem_cons.mpr ⟨(dist_ne hd 5 14 rfl rfl rfl).symm, List.forall_mem_cons.mpr ⟨(dist_ne hd 6 14 rfl rfl rfl).symm, List.forall_mem_cons.mpr ⟨(dist_ne hd 10 14 rfl rfl rfl).symm, List.forall_mem_cons.mpr ⟨(dist_ne hd 11 14 rfl rfl rfl).symm, List.forall_mem_cons.mpr ⟨(dist_ne hd 12 14 rfl rfl rfl).symm, List.forall_mem_cons.mpr ⟨(dist_ne hd 13 14 rfl rfl rfl).symm, List.forall_mem_cons.mpr ⟨dist_ne hd 14 15 rfl rfl rfl, List.forall_mem_cons.mpr ⟨dist_ne hd 14 16 rfl rfl rfl, List.forall_mem_cons.mpr ⟨dist_ne hd 14 17 rfl rfl rfl, List.forall_mem_cons.mpr ⟨dist_ne hd 14 18 rfl rfl rfl, List.forall_mem_cons.mpr ⟨dist_ne hd 14 19 rfl rfl rfl, List.forall_mem_cons.mpr ⟨dist_ne hd 14 20 rfl rfl rfl, List.forall_mem_cons.mpr ⟨dist_ne hd 14 21 rfl rfl rfl, List.forall_mem_cons.mpr ⟨dist_ne hd 14 22 rfl rfl rfl, List.forall_mem_cons.mpr ⟨dist_ne hd 14 23 rfl rfl rfl, List.forall_mem_cons.mpr ⟨dist_ne hd 14 24 rfl rfl rfl, List.forall_mem_cons.mpr ⟨dist_ne hd 14 25 rfl rfl rfl, List.forall_mem_cons.mpr ⟨dist_ne hd 14 26 rfl rfl rfl, List.forall_mem_cons.mpr ⟨dist_ne hd 14 27 rfl rfl rfl, List.forall_mem_cons.mpr ⟨dist_ne hd 14 28 rfl rfl rfl, List.forall_mem_cons.mpr ⟨dist_ne hd 14 30 rfl rfl rfl, List.forall_mem_nil _⟩⟩⟩⟩⟩⟩⟩⟩⟩⟩⟩⟩⟩⟩⟩⟩⟩⟩⟩⟩⟩⟩⟩⟩⟩⟩⟩
  have sp : ∀ {C g : Addr} {sec : Int} {nm : Str} {mul : Int}, Kind C g sec nm → 1 ≤ mul → 1 ≤ sec * mul := by
    intro C g sec nm mul hk h; cases hk <;> omega
  refine ⟨⟨st, ex, ev, nw, self, sd, fC⟩, ⟨gm, gf, Dg, tl, Dn, r0, r1, r2, it0, it1, it2, cN, nl, A0, W0, A1, W1, A2, W2, n, keyStr n A0 mul0 nm0, keyStr n A1 mul1 nm1, keyStr n A2 mul2 nm2, v0, v1, v2, nvs⟩, _, rfl, rfl, rfl, ?_,
    oSt, oEx, oEv, #[], rest, l', [], 0, [], none, now, tk, 0, now, hm, rfl, ?_, ?_, hr ▸ List.mem_cons_self .., .nil, Nat.le_refl _, ⟨List.Pairwise.nil, (fun _ h => nomatch h), (fun _ h => nomatch h), rfl, rfl, rfl⟩, FxOk.start _ _, Int.le_refl _⟩
  rotate_left
  · refine ⟨?_, ?_, ?_, ?_, ?_, ?_, ?_, ?_, ?_, ?_, ?_, ?_, ?_, ?_, ?_, ?_, ?_, ?_⟩
    · exact ⟨dm, km, by rw [hr]; k_mem, by rw [hr]; k_mem⟩
    · exact ⟨df, kf, by rw [hr]; k_mem, by rw [hr]; k_mem⟩
    · exact ⟨C0, g0, sec0, nm0, mul0, ⟨d0, a0, b0, c0, p0, q0, by rw [hr]; k_mem, by rw [hr]; k_mem⟩, K0, hm0.1, hm0.2, hA0.1, by show A0 ≤ 9; omega, hW0, rfl⟩
    · exact ⟨C1, g1, sec1, nm1, mul1, ⟨d1, a1, b1, c1, p1, q1, by rw [hr]; k_mem, by rw [hr]; k_mem⟩, K1, hm1.1, hm1.2, by show 1 ≤ A1; omega, hA1.2, hW1, rfl⟩
    · exact ⟨C2, g2, sec2, nm2, mul2, ⟨d2, a2, b2, c2, p2, q2, by rw [hr]; k_mem, by rw [hr]; k_mem⟩, K2, hm2.1, hm2.2, hA2.1, hA2.2, hW2, rfl⟩
    · exact ⟨hn.1, hn.2, t1, t2, nn, by rw [hr]; k_mem⟩
    · exact ⟨ng, by rw [hr]; k_mem⟩
    · exact ⟨nt, by rw [hr]; k_mem⟩
    · exact ⟨n0, u0, v0, by rw [hr]; k_mem⟩
    · exact ⟨n1, u1, v1, by rw [hr]; k_mem⟩
    · exact ⟨n2, u2, v2, by rw [hr]; k_mem⟩
    · exact key_ne hA0.1 (by omega) (by omega) hA1.2 (by omega)
    · exact hW0 ▸ sp K0 hm0.1
    · exact hW1 ▸ sp K1 hm1.1
    · exact hW2 ▸ sp K2 hm2.1
    · exact ⟨name, qual, pm, ctv, c', oc, oN, vs, tq, kk, e1, e2, e3, by rw [hr]; k_mem, by rw [hr]; k_mem, hc1, hc2, by rw [hr]; k_mem, hcN⟩
    · rw [hr]; k_mem
    · exact ⟨q3, by rw [hr]; k_mem⟩
  · exact ⟨hz, ho, ⟨ka, kb, kc, kd, by rw [hr]; k_mem, by rw [hr]; k_mem⟩, ⟨name, qual, pm, ctv, c', cN, nw, oc, oN, vs, tq, tk, 0, kk, e1, e2, e3, .tail _ (by rw [hr]; k_mem), .tail _ (by rw [hr]; k_mem), hc1, hc2, .tail _ (by rw [hr]; k_mem), hcN, .head _⟩, .inl rfl, ⟨[], [], dSt, dEx, .none⟩, ⟨[], dEv, Nat.zero_le _, .inl ⟨rfl, rfl⟩, .inl ⟨rfl, rfl⟩⟩⟩
  · subst hr; exact cb_drop N (by walk_at "my_reord")
end
end
end
section
open Lean PySem PySem.Calls PySem.W PyProof.Rows PyProof.V PySem.Spec PyProof.Rows.LCg
local macro_rules | `(tactic| walk_at $s:str) => `(tactic| k_extra $(Lean.Syntax.mkStrLit ("LK " ++ s.getString)))
local macro_rules | `(tactic| walk_at "none") => `(tactic| fail)
section
variable {prog : Program} {w : World} {p : Program} {loose : List Str} {mean : ExcName → Option Value} {mg mb : Str → Option Value} {dp un : Nat} {gd : Option (List Code)} {cn : Str} {cs : Scope} {a : Addr} {ccd : Value} {cl : List (Str × Addr)} {outer : List Env} {A₀ : Around} {base h₀ : Heap} {L : Addr} {m : Str → Option Value} {news : List (Addr × Obj)} {s : Shared} {Q E : Value → Shared → Prop}
theorem ln_LK_1 : True := by
  try walk1
  k_with "LK k:k_room" => k_extra "ln 0"
  k_with "LK k:k_enter" => k_extra "ln 1"
  k_with "LK my_mem" => k_extra "ln 2"
  k_with "LK k:k_mem" => k_extra "ln 3"
  k_with "LK my_split" => k_extra "ln 4"
  k_with "LK my_ltf" => k_extra "ln 5"
  k_with "LK k:k_ne" => k_extra "ln 6"
  k_with "LK my_reord" => k_extra "ln 7"
  k_with "LK my_all" => k_extra "ln 8"
  k_with "LK k:k_all" => k_extra "ln 9"
  k_with "LK call builtin:len" => k_extra "ln 10"
  k_with "LK subscriptTail" => k_extra "ln 11"
  k_with "LK subscriptTail Name Name ref int" => k_extra "ln 11"
  k_with "LK subscriptTail" => k_extra "ln 12"
  k_with "LK subscriptTail Name Slice ref ref" => k_extra "ln 12"
  k_with "LK call builtin:sum" => k_extra "ln 13"
  k_with "LK my_rows" => k_extra "ln 15"
  k_with "LK my_room" => k_extra "ln 16"
  k_with "LK my_ctx" => k_extra "ln 17"
  k_with "LK my_ctx0" => k_extra "ln 18"
  trivial

theorem mem_subL {r r' : List (Addr × Obj)} {q : Addr × Obj} (h : ∀ p ∈ r, p ∈ r') (k : q ∈ r) : List.Mem q r' := h q k
/-- the objects of the frame at hand lie apart from the rest -/
def OffL (fr rest : List (Addr × Obj)) : Prop := ∀ q ∈ fr, ∀ p ∈ rest, q.1 ≠ p.1
structure Live (prog : Program) (w : World) (z : Z) (y : Y) (oSt oEx oEv oN : Obj) (ps : Array Value) (fr rest : List (Addr × Obj)) (e0 e1 : List Int) (fx : Option (Int × Int)) (cap : Nat) (now : Int) : Prop where
  L : LawIn w z y rest
  S : StoreSt prog w z oSt oEx oEv oN ps rest y.k0 y.k1 y.k2 e0 e1 fx cap now
  o : Offz z (fr ++ rest)
  a : OffL fr rest
section
variable {z : Z} {y : Y} {oSt oEx oEv oN oSt' oEx' oEv' : Obj} {ps ps' : Array Value} {fr rest ext : List (Addr × Obj)} {e0 e1 e0' e1' : List Int} {fx fx' : Option (Int × Int)} {cap cap' : Nat} {now c tf : Int} {rows : List Row} {t9 : Tok}
theorem offz_join {z : Z} {FR ext r : List (Addr × Obj)} (h : Offz z (FR ++ r)) (k : Offz z (ext ++ r)) : Offz z (FR ++ (ext ++ r)) := offz_mid h k
theorem Live.grow (V : Live prog w z y oSt oEx oEv oN ps fr rest e0 e1 fx cap now) (ab : Above ext ((z.st, oSt) :: (z.ex, oEx) :: (z.ev, oEv) :: (653, tabObj ps) :: (z.nw, oN) :: (fr ++ rest)))
   (S : StoreSt prog w z oSt' oEx' oEv' oN ps' (ext ++ rest) y.k0 y.k1 y.k2 e0' e1' fx' cap' now) : Live prog w z y oSt' oEx' oEv' oN ps' fr (ext ++ rest) e0' e1' fx' cap' now := by
  refine ⟨V.L.mono sub_ext, S, offz_join V.o S.ho, fun q hq p hp => ?_⟩
  rcases List.mem_append.mp hp with hp | hp
  · exact Nat.ne_of_lt (ab p hp q (.tail _ (.tail _ (.tail _ (.tail _ (.tail _ (mem_left hq)))))))
  · exact V.a q hq p hp
theorem Live.same (V : Live prog w z y oSt oEx oEv oN ps fr rest e0 e1 fx cap now) (S : StoreSt prog w z oSt' oEx' oEv' oN ps' rest y.k0 y.k1 y.k2 e0' e1' fx' cap' now) : Live prog w z y oSt' oEx' oEv' oN ps' fr rest e0' e1' fx' cap' now :=
  ⟨V.L, S, V.o, V.a⟩
def RetY (h₀ : Heap) (L : Addr) (m : Str → Option Value) (prog : Program) (w : World) (z : Z) (y : Y) (oN : Obj) (fr rest : List (Addr × Obj)) (e0 e1 : List Int) (fx : Option (Int × Int)) (cap : Nat) (now : Int) (v : Value) (s : Shared) (Q : Value → Shared → Prop) : Prop :=
  ∀ h' tk' oSt' oEx' oEv' ps' rest', Fr h₀ L h' m → News h₀ L h' ((z.st, oSt') :: (z.ex, oEx') :: (z.ev, oEv') :: (653, tabObj ps') :: (z.nw, oN) :: (fr ++ rest')) → (∀ p ∈ rest, p ∈ rest') →
    Live prog w z y oSt' oEx' oEv' oN ps' fr rest' e0 e1 fx cap now → Q v { s with heap := h', toks := tk' }
theorem look_y (V : Live prog w z y oSt oEx oEv oN ps fr rest e0 e1 fx cap now) {v : Value} (ret : RetY h₀ L m prog w z y oN fr rest e0 e1 fx cap now v s Q) : LookR h₀ L m prog w z oSt oEx oEv oN ps fr rest y.k0 y.k1 y.k2 e0 e1 fx cap now v s Q :=
  fun h' tk' ps' ext F' N' ab S' => ret h' tk' _ _ _ _ (ext ++ rest) F' (cb_drop N' (by walk_at "my_reord")) sub_ext (V.grow ab S')
theorem hit_y (V : Live prog w z y oSt oEx oEv oN ps fr rest e0 e1 fx cap now) {b : Bool} (ret : RetY h₀ L m prog w z y oN fr rest e0' e1' fx cap' now (.bool b) s Q) : HitR h₀ L m prog w z oSt oEx oEv oN ps fr rest y.k0 y.k1 y.k2 e0' e1' fx cap' now b s Q :=
  fun h' tk' oEv' ext F' N' ab S' => ret h' tk' _ _ _ _ (ext ++ rest) F' (cb_drop N' (by walk_at "my_reord")) sub_ext (V.grow ab S')
theorem fix_y (V : Live prog w z y oSt oEx oEv oN ps fr rest e0 e1 fx cap now) {v : Value} (ret : RetY h₀ L m prog w z y oN fr rest e0 e1 fx' cap now v s Q) : FixR h₀ L m prog w z oEv oN ps fr rest y.k0 y.k1 y.k2 e0 e1 fx' cap now v s Q :=
  fun h' tk' oSt' oEx' F' N' S' => ret h' tk' _ _ _ _ rest F' N' (fun _ h => h) (V.same S')
theorem test0_y (B : Below A₀ base outer h₀) (F : Fr h₀ L s.heap m) (X : (kd.heap_1 w.params).In h₀) (N : News h₀ L s.heap news) (T : Top p loose mean mg mb h₀) (hk : cs.kind = .function) (hdp : dp ≤ 920) (hun : un ≤ 9320) (V : Live prog w z y oSt oEx oEv oN ps fr rest (evOf rows) e1 fx cap now) (hn : news = (z.st, oSt) :: (z.ex, oEx) :: (z.ev, oEv) :: (653, tabObj ps) :: (z.nw, oN) :: (fr ++ rest)) (R : RowsOk y now rows) (hl : rows.length ≤ 50)
   (ret : RetY h₀ L m prog w z y oN fr rest (evOf rows) e1 fx cap now (.bool (fitsM y.A0 y.W0 (rows ++ [(now, c)]))) s Q) :
   wpAny (model prog w) (ktrTop dp un gd cn cs L a ccd cl outer) (call (.ref 190) [.ref y.gm, .ref y.i0, .ref y.tn, .int c t9]) Q E s :=
  law_test0 B F X N T hk hdp hun hn V.o V.S V.L.gm V.L.i0 V.L.nm V.L.w0 R.up R.till R.paid R.f0 hl (look_y V ret)
theorem test1_y (B : Below A₀ base outer h₀) (F : Fr h₀ L s.heap m) (X : (kd.heap_1 w.params).In h₀) (N : News h₀ L s.heap news) (T : Top p loose mean mg mb h₀) (hk : cs.kind = .function) (hdp : dp ≤ 920) (hun : un ≤ 9320) (V : Live prog w z y oSt oEx oEv oN ps fr rest e0 (evOf rows) fx cap now) (hn : news = (z.st, oSt) :: (z.ex, oEx) :: (z.ev, oEv) :: (653, tabObj ps) :: (z.nw, oN) :: (fr ++ rest)) (R : RowsOk y now rows) (hl : rows.length ≤ 50)
   (ret : RetY h₀ L m prog w z y oN fr rest e0 (evOf rows) fx cap now (.bool (fitsM y.A1 y.W1 (rows ++ [(now, c)]))) s Q) :
   wpAny (model prog w) (ktrTop dp un gd cn cs L a ccd cl outer) (call (.ref 190) [.ref y.gm, .ref y.i1, .ref y.tn, .int c t9]) Q E s :=
  law_test1 B F X N T hk hdp hun hn V.o V.S V.L.gm V.L.i1 V.L.nm V.L.w1 R.up R.till R.paid R.f1 hl (look_y V ret)
theorem test2_y (B : Below A₀ base outer h₀) (F : Fr h₀ L s.heap m) (X : (kd.heap_1 w.params).In h₀) (N : News h₀ L s.heap news) (T : Top p loose mean mg mb h₀) (hk : cs.kind = .function) (hdp : dp ≤ 920) (hun : un ≤ 9320) (V : Live prog w z y oSt oEx oEv oN ps fr rest e0 e1 fx cap now) (hn : news = (z.st, oSt) :: (z.ex, oEx) :: (z.ev, oEv) :: (653, tabObj ps) :: (z.nw, oN) :: (fr ++ rest)) (R : RowsOk y now rows) (hx : FxOk y.W2 rows tf fx) (htn : tf ≤ now)
   (ret : RetY h₀ L m prog w z y oN fr rest e0 e1 (live now fx) cap now (.bool (fitsF y.A2 y.W2 none 0 (rows ++ [(now, c)]))) s Q) :
   wpAny (model prog w) (ktrTop dp un gd cn cs L a ccd cl outer) (call (.ref 229) [.ref y.gf, .ref y.i2, .ref y.tn, .int c t9]) Q E s :=
  law_test2 B F X N T hk hdp hun hn V.o V.S V.L.gf V.L.i2 V.L.nm hx htn R.f2 (fix_y V ret)
theorem no0_y (B : Below A₀ h₀ [] h₀) (F : Fr h₀ L s.heap m) (X : (kd.heap_1 w.params).In h₀) (N : News h₀ L s.heap news) (T : Top p loose mean mg mb h₀) (hk : cs.kind = .function) (hdp : dp ≤ 920) (hun : un ≤ 9300)
   (V : Live prog w z y oSt oEx oEv oN ps fr rest (evOf rows) e1 fx cap now) (hn : news = (z.st, oSt) :: (z.ex, oEx) :: (z.ev, oEv) :: (653, tabObj ps) :: (z.nw, oN) :: (fr ++ rest)) (R : RowsOk y now rows) (hl : rows.length ≤ 50) (hcap : cap ≤ 1000) (hc : 1 ≤ c)
   (hb : fitsM y.A0 y.W0 (rows ++ [(now, c)]) = false) (ret : RetY h₀ L m prog w z y oN fr rest (evOf rows) e1 fx (cap + 1) now (.bool false) s Q) :
   wpAny (model prog w) (ktrTop dp un gd cn cs L a ccd cl []) (call (.ref 181) [.ref y.gm, .ref y.i0, .ref y.tn, .int c t9]) Q E s :=
  law_no0 B F X N T hk hdp hun hn V.o V.S V.L.gm V.L.i0 V.L.nm hcap hc V.L.ne V.L.w0 R.up R.till R.paid R.f0 hl hb (hit_y V ret)
theorem no1_y (B : Below A₀ h₀ [] h₀) (F : Fr h₀ L s.heap m) (X : (kd.heap_1 w.params).In h₀) (N : News h₀ L s.heap news) (T : Top p loose mean mg mb h₀) (hk : cs.kind = .function) (hdp : dp ≤ 920) (hun : un ≤ 9300)
   (V : Live prog w z y oSt oEx oEv oN ps fr rest e0 (evOf rows) fx cap now) (hn : news = (z.st, oSt) :: (z.ex, oEx) :: (z.ev, oEv) :: (653, tabObj ps) :: (z.nw, oN) :: (fr ++ rest)) (R : RowsOk y now rows) (hl : rows.length ≤ 50) (hcap : cap ≤ 1000) (hc : 1 ≤ c)
   (hb : fitsM y.A1 y.W1 (rows ++ [(now, c)]) = false) (ret : RetY h₀ L m prog w z y oN fr rest e0 (evOf rows) fx (cap + 1) now (.bool false) s Q) :
   wpAny (model prog w) (ktrTop dp un gd cn cs L a ccd cl []) (call (.ref 181) [.ref y.gm, .ref y.i1, .ref y.tn, .int c t9]) Q E s :=
  law_no1 B F X N T hk hdp hun hn V.o V.S V.L.gm V.L.i1 V.L.nm hcap hc V.L.ne V.L.w1 R.up R.till R.paid R.f1 hl hb (hit_y V ret)
theorem yes0_y (B : Below A₀ h₀ [] h₀) (F : Fr h₀ L s.heap m) (X : (kd.heap_1 w.params).In h₀) (N : News h₀ L s.heap news) (T : Top p loose mean mg mb h₀) (hk : cs.kind = .function) (hdp : dp ≤ 920) (hun : un ≤ 9300)
   (V : Live prog w z y oSt oEx oEv oN ps fr rest (evOf rows) e1 fx cap now) (hn : news = (z.st, oSt) :: (z.ex, oEx) :: (z.ev, oEv) :: (653, tabObj ps) :: (z.nw, oN) :: (fr ++ rest)) (R : RowsOk y now rows) (hl : rows.length ≤ 50) (hcap : cap ≤ 1000) (hc : 1 ≤ c)
   (hb : fitsM y.A0 y.W0 (rows ++ [(now, c)]) = true) (hb' : fitsM y.A0 (y.W0 + 1) (rows ++ [(now, c)]) = true) (ret : RetY h₀ L m prog w z y oN fr rest (evOf (rows ++ [(now, c)])) e1 fx (cap + 1) now (.bool true) s Q) :
   wpAny (model prog w) (ktrTop dp un gd cn cs L a ccd cl []) (call (.ref 181) [.ref y.gm, .ref y.i0, .ref y.tn, .int c t9]) Q E s :=
  law_yes0 B F X N T hk hdp hun hn V.o V.S V.L.gm V.L.i0 V.L.nm hcap hc V.L.ne V.L.w0 R.up R.till R.paid R.f0 hl hb hb' (hit_y V ret)
theorem yes1_y (B : Below A₀ h₀ [] h₀) (F : Fr h₀ L s.heap m) (X : (kd.heap_1 w.params).In h₀) (N : News h₀ L s.heap news) (T : Top p loose mean mg mb h₀) (hk : cs.kind = .function) (hdp : dp ≤ 920) (hun : un ≤ 9300)
   (V : Live prog w z y oSt oEx oEv oN ps fr rest e0 (evOf rows) fx cap now) (hn : news = (z.st, oSt) :: (z.ex, oEx) :: (z.ev, oEv) :: (653, tabObj ps) :: (z.nw, oN) :: (fr ++ rest)) (R : RowsOk y now rows) (hl : rows.length ≤ 50) (hcap : cap ≤ 1000) (hc : 1 ≤ c)
   (hb : fitsM y.A1 y.W1 (rows ++ [(now, c)]) = true) (hb' : fitsM y.A1 (y.W1 + 1) (rows ++ [(now, c)]) = true) (ret : RetY h₀ L m prog w z y oN fr rest e0 (evOf (rows ++ [(now, c)])) fx (cap + 1) now (.bool true) s Q) :
   wpAny (model prog w) (ktrTop dp un gd cn cs L a ccd cl []) (call (.ref 181) [.ref y.gm, .ref y.i1, .ref y.tn, .int c t9]) Q E s :=
  law_yes1 B F X N T hk hdp hun hn V.o V.S V.L.gm V.L.i1 V.L.nm hcap hc V.L.ne V.L.w1 R.up R.till R.paid R.f1 hl hb hb' (hit_y V ret)
theorem yes2_y (B : Below A₀ base outer h₀) (F : Fr h₀ L s.heap m) (X : (kd.heap_1 w.params).In h₀) (N : News h₀ L s.heap news) (T : Top p loose mean mg mb h₀) (hk : cs.kind = .function) (hdp : dp ≤ 920) (hun : un ≤ 9320) (V : Live prog w z y oSt oEx oEv oN ps fr rest e0 e1 fx cap now) (hn : news = (z.st, oSt) :: (z.ex, oEx) :: (z.ev, oEv) :: (653, tabObj ps) :: (z.nw, oN) :: (fr ++ rest)) (R : RowsOk y now rows) (hx : FxOk y.W2 rows tf fx) (htn : tf ≤ now)
   (hb : fitsF y.A2 y.W2 none 0 (rows ++ [(now, c)]) = true) (ret : RetY h₀ L m prog w z y oN fr rest e0 e1 (bump now y.W2 c (live now fx)) cap now (.bool true) s Q) :
   wpAny (model prog w) (ktrTop dp un gd cn cs L a ccd cl outer) (call (.ref 220) [.ref y.gf, .ref y.i2, .ref y.tn, .int c t9]) Q E s :=
  law_yes2 B F X N T hk hdp hun hn V.o V.S V.L.gf V.L.i2 V.L.nm hx htn R.paid R.f2 hb (fix_y V ret)
theorem room_y (B : Below A₀ base outer h₀) (F : Fr h₀ L s.heap m) (X : (kd.heap_1 w.params).In h₀) (N : News h₀ L s.heap news) (T : Top p loose mean mg mb h₀) (hk : cs.kind = .function) (hdp : dp ≤ 910) (hun : un ≤ 9260) (V : Live prog w z y oSt oEx oEv oN ps fr rest (evOf rows) (evOf rows) fx cap now) (hn : news = (z.st, oSt) :: (z.ex, oEx) :: (z.ev, oEv) :: (653, tabObj ps) :: (z.nw, oN) :: (fr ++ rest)) (R : RowsOk y now rows) (hx : FxOk y.W2 rows tf fx) (htn : tf ≤ now)
   {l : Addr} {vs : List Value} {nn : Nat} (hl : (l, listOf vs.toArray nn) ∈ rest) (hr : RowsAre rest vs rows) (hb : rows.length ≤ 50)
   (ret : RetY h₀ L m prog w z y oN fr rest (evOf rows) (evOf rows) (live now fx) cap now (.bool true) s Q) :
   wpAny (model prog w) (ktrTop dp un gd cn cs L a ccd cl outer) (call (.ref 744) [.ref y.ga, .ref y.tl, .ref y.tn, .ref l, .int now t9]) Q E s := by
  obtain ⟨k1, ga⟩ := V.L.ga
  obtain ⟨k2, tl⟩ := V.L.tl
  obtain ⟨n0, t0, u0, h0⟩ := V.L.h0
  obtain ⟨n1, t1, u1, h1⟩ := V.L.h1
  obtain ⟨n2, t2, u2, h2⟩ := V.L.h2
  refine law_room_ok B F X N T hk hdp hun hn V.o V.S V.L.gm V.L.gf V.L.i0 V.L.i1 V.L.i2 V.L.nm ga (ev_small V.L.w0 V.L.i0.small.2 R.paid R.f0 hb) hl hr (by omega) tl h0 h1 h2 V.L.w0 V.L.w1 R.up R.till R.paid R.f0 R.f1 R.f2 (by have := V.L.i2.small; omega) hx htn ?_
  intro h' tk' oSt' oEx' ps' ext F' N' ab S'
  exact ret _ _ _ _ _ _ (ext ++ rest) F' N' sub_ext (V.grow ab S')
end
theorem now_item {A : Around} {led : List (Addr × Obj)} {value slice : PySem.Expr} {l : Addr} {v : Int} {tk u : Tok} {n : Nat} (N : News h₀ L s.heap led) (hm : (l, listOf #[.int v tk] n) ∈ led) (h : ∀ t, Q (.int v t) s)
    (d : subscripted slice false (.ref l) (.int 0 u) = operate [.ref l, .int 0 u] (getItem (.ref l) (.int 0 u)) := by with_unfolding_all rfl) (e : ∀ r, letTemporaryGo value (.ref l) r = pure () := by intro _; with_unfolding_all rfl) :
    wpAny (model prog w) A (subscriptTail value slice (.ref l) (.int 0 u)) Q E s :=
  item_list_ints (vs := [.int v tk]) (ns := [v]) (heap_list N hm) (.cons _ _ .nil) (by decide) (by simp) (by decide) h d e
theorem menu_item {A : Around} {led : List (Addr × Obj)} {value slice : PySem.Expr} {D : Addr} {vs : List Value} {nn : Nat} {k : Int} {u : Tok} (P : Int → Prop) (N : News h₀ L s.heap led) (hm : (D, ({ cls := .type "tuple", data := .seq vs.toArray nn } : Obj)) ∈ led)
    (h0 : 0 ≤ k) (h1 : k < (vs.length : Int)) (h2 : k < 2 ^ 63) (hv : ∀ v ∈ vs, ∃ x t, v = .int x t ∧ P x) (h : ∀ x t, P x → Q (.int x t) s)
    (hs : subscripted slice false (.ref D) (.int k u) = operate [.ref D, .int k u] (getItem (.ref D) (.int k u)) := by with_unfolding_all rfl) :
    wpAny (model prog w) A (subscriptTail value slice (.ref D) (.int k u)) Q E s := by
  have ht : s.heap.IsTuple D vs.toArray := ⟨_, (N _ hm).1, rfl, nn, rfl⟩
  have hk : k.toNat < vs.length := by omega
  have hg : vs[k.toNat]? = some vs[k.toNat] := List.getElem?_eq_getElem hk
  obtain ⟨x, t, e, hp⟩ := hv _ (List.getElem_mem hk)
  rw [e] at hg
  exact tail_any ht.typeIs slot_tuple_getitem.lookup (getItem_tuple ht (by omega) h2 (j := k.toNat) (seqIndex_of h0 (by rw [List.size_toArray]; exact h1)) (by simpa using hg) (h x t hp)) hs
theorem now_set {A : Around} {oSt oEx oEv : Obj} {z : Z} {y : Y} {ps : Array Value} {fr rest : List (Addr × Obj)} {e0 e1 : List Int} {fx : Option (Int × Int)} {cap nn : Nat} {now v : Int} {tk tv u : Tok} {Q : Unit → Shared → Prop} (F : Fr h₀ L s.heap m)
    (V : Live prog w z y oSt oEx oEv (listOf #[.int now tk] nn) ps fr rest e0 e1 fx cap now) (N : News h₀ L s.heap ((z.st, oSt) :: (z.ex, oEx) :: (z.ev, oEv) :: (653, tabObj ps) :: (z.nw, listOf #[.int now tk] nn) :: (fr ++ rest)))
    (h : ∀ h', Fr h₀ L h' m → News h₀ L h' ((z.st, oSt) :: (z.ex, oEx) :: (z.ev, oEv) :: (653, tabObj ps) :: (z.nw, listOf #[.int v tv] nn) :: (fr ++ rest)) → Live prog w z y oSt oEx oEv (listOf #[.int v tv] nn) ps fr rest e0 e1 fx cap v → Q () { s with heap := h' }) :
    wpAny (model prog w) A (setItem (.ref z.nw) (.int 0 u) (.int v tv)) Q E s := by
  have o := V.S.hz
  refine ki_set (q := [.int v tv]) F N (by decide) (by decide) rfl (.tail o.a3 (.tail o.a5 (.tail o.a6 (.tail (Ne.symm o.b4) (.head V.o.a5))))) fun h' F' N' => ?_
  exact h h' F' N' ⟨V.L, V.S.tick V.L.ck, V.o, V.a⟩
theorem ne_same {A : Around} {a b : Bool} (e : a = b) (h : Q (.bool false) s) : wpAny (model prog w) A (compareOp .NotEq (.bool a) (.bool b)) Q E s := by
  subst e
  exact ne_bool (by rw [bne_self_eq_false]; exact h)
theorem fits_m (B : Below A₀ base outer h₀) (F : Fr h₀ L s.heap m) (X : (kd.heap_1 w.params).In h₀) (N : News h₀ L s.heap news) (T : Top p loose mean mg mb h₀) (hk : cs.kind = .function) (hdp : dp ≤ 940) (hun : un ≤ 9440) {l : Addr} {vs : List Value} {nn : Nat} {rows : List Row} {k A W : Int} {t0 t1 t2 : Tok}
   (hl : (l, listOf vs.toArray nn) ∈ news) (hr : RowsAre news vs rows) (hb : rows.length ≤ 1000) (hk2 : k ≠ 2)
   (ret : ∀ h' tk', Fr h₀ L h' m → News h₀ L h' news → Q (.bool (fitsM A W rows)) { s with heap := h', toks := tk'}) :
   wpAny (model prog w) (ktrTop dp un gd cn cs L a ccd cl outer) (call (.ref 732) [.int k t0, .ref l, .int A t1, .int W t2]) Q E s :=
  law_fits_ok B F X N T hk hdp hun hl hr hb (by rw [show fits k A W rows = fitsM A W rows from if_neg hk2]; exact ret)
theorem fits_f (B : Below A₀ base outer h₀) (F : Fr h₀ L s.heap m) (X : (kd.heap_1 w.params).In h₀) (N : News h₀ L s.heap news) (T : Top p loose mean mg mb h₀) (hk : cs.kind = .function) (hdp : dp ≤ 940) (hun : un ≤ 9440) {l : Addr} {vs : List Value} {nn : Nat} {rows : List Row} {k A W : Int} {t0 t1 t2 : Tok}
   (hl : (l, listOf vs.toArray nn) ∈ news) (hr : RowsAre news vs rows) (hb : rows.length ≤ 1000) (hk2 : k = 2)
   (ret : ∀ h' tk', Fr h₀ L h' m → News h₀ L h' news → Q (.bool (fitsF A W none 0 rows)) { s with heap := h', toks := tk'}) :
   wpAny (model prog w) (ktrTop dp un gd cn cs L a ccd cl outer) (call (.ref 732) [.int k t0, .ref l, .int A t1, .int W t2]) Q E s :=
  law_fits_ok B F X N T hk hdp hun hl hr hb (by rw [show fits k A W rows = fitsF A W none 0 rows from if_pos hk2]; exact ret)
theorem ints_get {vs : List Value} {ns : List Int} (h : IntsAre vs ns) : ∀ {i : Nat} {v : Value}, vs[i]? = some v → ∃ x t, v = .int x t := by
  induction h with
  | nil => intro i v e; simp at e
  | cons _ _ _ ih =>
    intro i v e
    cases i with
    | zero => simp at e; exact ⟨_, _, e.symm⟩
    | succ i => exact ih (by simpa using e)
theorem Live.start {z : Z} {y : Y} {oSt oEx oEv oN oe oI : Obj} {ps : Array Value} {rest : List (Addr × Obj)} {e0 e1 : List Int} {fx : Option (Int × Int)} {cap : Nat} {now : Int} {e I : Addr} {h : Heap} {led : List (Addr × Obj)} (_N : News h₀ L h ((e, oe) :: (I, oI) :: led)) (L : LawIn w z y rest) (S : StoreSt prog w z oSt oEx oEv oN ps rest y.k0 y.k1 y.k2 e0 e1 fx cap now)
   (h1 : ∀ p ∈ (z.st, oSt) :: (z.ex, oEx) :: (z.ev, oEv) :: (653, tabObj ps) :: (z.nw, oN) :: rest, p.1 ≠ e) (h2 : ∀ p ∈ (z.st, oSt) :: (z.ex, oEx) :: (z.ev, oEv) :: (653, tabObj ps) :: (z.nw, oN) :: rest, p.1 ≠ I) : Live prog w z y oSt oEx oEv oN ps [(e, oe), (I, oI)] rest e0 e1 fx cap now := by
  have a1 := h1 _ (.head _)
  have a2 := h1 _ (.tail _ (.head _))
  have a3 := h1 _ (.tail _ (.tail _ (.head _)))
  have a4 := h1 _ (.tail _ (.tail _ (.tail _ (.head _))))
  have a5 := h1 _ (.tail _ (.tail _ (.tail _ (.tail _ (.head _)))))
  have b1 := h2 _ (.head _)
  have b2 := h2 _ (.tail _ (.head _))
  have b3 := h2 _ (.tail _ (.tail _ (.head _)))
  have b4 := h2 _ (.tail _ (.tail _ (.tail _ (.head _))))
  have b5 := h2 _ (.tail _ (.tail _ (.tail _ (.tail _ (.head _)))))
  refine ⟨L, S, (S.ho.cons (Ne.symm b1) (Ne.symm b2) (Ne.symm b3) (Ne.symm b4) (Ne.symm b5)).cons (Ne.symm a1) (Ne.symm a2) (Ne.symm a3) (Ne.symm a4) (Ne.symm a5), fun q hq p hp => ?_⟩
  rcases List.mem_cons.mp hq with rfl | hq
  · exact Ne.symm (h1 p (.tail _ (.tail _ (.tail _ (.tail _ (.tail _ hp))))))
  · rw [List.mem_singleton.mp hq]
    exact Ne.symm (h2 p (.tail _ (.tail _ (.tail _ (.tail _ (.tail _ hp))))))
/-- new objects join the rest -/
theorem Live.push {z : Z} {y : Y} {oSt oEx oEv oN : Obj} {ps : Array Value} {fr rest : List (Addr × Obj)} {e0 e1 : List Int} {fx : Option (Int × Int)} {cap : Nat} {now : Int} {D : Addr} {o : Obj} (V : Live prog w z y oSt oEx oEv oN ps fr rest e0 e1 fx cap now)
   (h : ∀ p ∈ (z.st, oSt) :: (z.ex, oEx) :: (z.ev, oEv) :: (653, tabObj ps) :: (z.nw, oN) :: (fr ++ rest), p.1 < D) : Live prog w z y oSt oEx oEv oN ps fr ((D, o) :: rest) e0 e1 fx cap now := by
  have s : ∀ p ∈ rest, p ∈ (D, o) :: rest := fun p hp => .tail _ hp
  have a1 := Nat.ne_of_gt (h _ (.head _))
  have a2 := Nat.ne_of_gt (h _ (.tail _ (.head _)))
  have a3 := Nat.ne_of_gt (h _ (.tail _ (.tail _ (.head _))))
  have a4 := Nat.ne_of_gt (h _ (.tail _ (.tail _ (.tail _ (.head _)))))
  have a5 := Nat.ne_of_gt (h _ (.tail _ (.tail _ (.tail _ (.tail _ (.head _))))))
  have hr : Offz z ((D, o) :: rest) := V.S.ho.cons a1 a2 a3 a4 a5
  refine ⟨V.L.mono s, V.S.mono s hr, ?_, fun q hq p hp => ?_⟩
  · have go : ∀ p ∈ fr ++ (D, o) :: rest, p ∈ fr ++ rest ∨ p ∈ (D, o) :: rest := fun p hp => (List.mem_append.mp hp).elim (fun h => .inl (mem_left h)) .inr
    exact ⟨fun p hp => (go p hp).elim (V.o.a1 p) (hr.a1 p), fun p hp => (go p hp).elim (V.o.a2 p) (hr.a2 p), fun p hp => (go p hp).elim (V.o.a3 p) (hr.a3 p), fun p hp => (go p hp).elim (V.o.a4 p) (hr.a4 p), fun p hp => (go p hp).elim (V.o.a5 p) (hr.a5 p)⟩
  · rcases List.mem_cons.mp hp with rfl | hp
    · exact Nat.ne_of_lt (h q (.tail _ (.tail _ (.tail _ (.tail _ (.tail _ (mem_left hq)))))))
    · exact V.a q hq p hp
/-- two ways meet: the moment -/
def JoinN (h₀ : Heap) (L : Addr) (m : Str → Option Value) (prog : Program) (w : World) (z : Z) (y : Y) (fr rest : List (Addr × Obj)) (e0 e1 : List Int) (fx : Option (Int × Int)) (cap : Nat) (now : Int) (s : Shared) (f : Flow) (s' : Shared) : Prop :=
  f = .next ∧ ∃ h' tk' oSt oEx oEv ps now' tk nn, s' = { s with heap := h', toks := tk' } ∧ now ≤ now' ∧ Fr h₀ L h' m ∧ News h₀ L h' ((z.st, oSt) :: (z.ex, oEx) :: (z.ev, oEv) :: (653, tabObj ps) :: (z.nw, listOf #[.int now' tk] nn) :: (fr ++ rest)) ∧
    Live prog w z y oSt oEx oEv (listOf #[.int now' tk] nn) ps fr rest e0 e1 fx cap now'
theorem JoinN.intro {h' : Heap} {tk' : Nat} {z : Z} {y : Y} {oSt oEx oEv : Obj} {ps : Array Value} {fr rest : List (Addr × Obj)} {e0 e1 : List Int} {fx : Option (Int × Int)} {cap nn : Nat} {now now' : Int} {tk : Tok} (hn : now ≤ now') (F : Fr h₀ L h' m)
   (N : News h₀ L h' ((z.st, oSt) :: (z.ex, oEx) :: (z.ev, oEv) :: (653, tabObj ps) :: (z.nw, listOf #[.int now' tk] nn) :: (fr ++ rest))) (V : Live prog w z y oSt oEx oEv (listOf #[.int now' tk] nn) ps fr rest e0 e1 fx cap now') :
   JoinN h₀ L m prog w z y fr rest e0 e1 fx cap now s .next { s with heap := h', toks := tk' } := ⟨rfl, h', tk', oSt, oEx, oEv, ps, now', tk, nn, rfl, hn, F, N, V⟩
/-- two ways meet: the cost -/
def JoinC (h₀ : Heap) (L : Addr) (ps : List (Str × Value)) (led : List (Addr × Obj)) (s : Shared) (f : Flow) (s' : Shared) : Prop :=
  f = .next ∧ ∃ h' tk' m' c tc, s' = { s with heap := h', toks := tk' } ∧ 1 ≤ c ∧ Has ((Str.ofString "cost", .int c tc) :: ps) m' ∧ Fr h₀ L h' m' ∧ News h₀ L h' led
theorem JoinC.intro {h' : Heap} {tk' : Nat} {ps : List (Str × Value)} {led : List (Addr × Obj)} {m' : Str → Option Value} {c : Int} {tc : Tok} (hc : 1 ≤ c) (hm : Has ((Str.ofString "cost", .int c tc) :: ps) m') (F : Fr h₀ L h' m') (N : News h₀ L h' led) :
   JoinC h₀ L ps led s .next { s with heap := h', toks := tk' } := ⟨rfl, h', tk', m', c, tc, rfl, hc, hm, F, N⟩
theorem row_add {A : Around} {rest led : List (Addr × Obj)} (F : Fr h₀ L s.heap m) (N : News h₀ L s.heap led) {a b tp : Addr} {vs : List Value} {n k nn : Nat} {rows : List Row} {x q : Int} {t u : Tok} (ha : (a, listOf vs.toArray n) ∈ led) (hr : RowsAre rest vs rows) (hb : (b, listOf #[.ref tp] k) ∈ led)
    (_ht : (tp, ({ cls := .type "tuple", data := .seq #[.int x t, .int q u] nn } : Obj)) ∈ led) (hz : rows.length ≤ 1000)
    (h : ∀ D h' vs', Fr h₀ L h' m → News h₀ L h' ((D, listOf (List.toArray vs') 0) :: led) → (∀ p ∈ led, p.1 < D) → RowsAre ((tp, ({ cls := .type "tuple", data := .seq #[.int x t, .int q u] nn } : Obj)) :: rest) vs' (rows ++ [(x, q)]) → Q (.ref D) { s with heap := h' }) : wpAny (model prog w) A (binaryOp .Add (.ref a) (.ref b)) Q E s :=
  add_two F N ha (ws := [.ref tp]) hb (by have := hr.length; rw [sizeLine_eq]; simp; omega) fun D h' F' N' l => h D h' _ F' N' l ((hr.mono fun _ h => .tail _ h).append (.cons ⟨tp, t, u, nn, rfl, .head _⟩ .nil))
theorem join_n {A : Around} {c : Sem Flow} {z : Z} {y : Y} {oSt oEx oEv : Obj} {ps : Array Value} {fr rest : List (Addr × Obj)} {e0 e1 : List Int} {fx : Option (Int × Int)} {cap nn : Nat} {now : Int} {tk : Tok} {Q : Flow → Shared → Prop} (F : Fr h₀ L s.heap m)
   (_N : News h₀ L s.heap ((z.st, oSt) :: (z.ex, oEx) :: (z.ev, oEv) :: (653, tabObj ps) :: (z.nw, listOf #[.int now tk] nn) :: (fr ++ rest))) (_V : Live prog w z y oSt oEx oEv (listOf #[.int now tk] nn) ps fr rest e0 e1 fx cap now)
   (a : wpAny (model prog w) A c (JoinN h₀ L m prog w z y fr rest e0 e1 fx cap now s) E s)
   (b : ∀ h' tk' oSt oEx oEv ps now' tk nn, now ≤ now' → Fr h₀ L h' m → News h₀ L h' ((z.st, oSt) :: (z.ex, oEx) :: (z.ev, oEv) :: (653, tabObj ps) :: (z.nw, listOf #[.int now' tk] nn) :: (fr ++ rest)) →
     Live prog w z y oSt oEx oEv (listOf #[.int now' tk] nn) ps fr rest e0 e1 fx cap now' → Q .next { s with heap := h', toks := tk' }) : wpAny (model prog w) A c Q E s :=
  wpAny_mono a (fun f s₂ hj => by
    obtain ⟨rfl, h', tk', oSt, oEx, oEv, ps, now', tk, nn, rfl, hn, F', N', V'⟩ := hj
    exact b _ _ _ _ _ _ _ _ _ hn F' N' V') fun _ _ e => e
theorem join_c {A : Around} {c : Sem Flow} {Q : Flow → Shared → Prop} {led : List (Addr × Obj)} (ps : List (Str × Value)) (_F : Fr h₀ L s.heap m) (_N : News h₀ L s.heap led)
   (a : wpAny (model prog w) A c (JoinC h₀ L ps led s) E s)
   (b : ∀ h' tk' m' c tc, 1 ≤ c → Has ((Str.ofString "cost", .int c tc) :: ps) m' → Fr h₀ L h' m' → News h₀ L h' led → Q .next { s with heap := h', toks := tk' }) : wpAny (model prog w) A c Q E s :=
  wpAny_mono a (fun f s₂ hj => by
    obtain ⟨rfl, h', tk', m', c, tc, rfl, hc, hm, F', N'⟩ := hj
    exact b _ _ _ _ _ hc hm F' N') fun _ _ e => e
end
end
section
open Lean PySem PySem.Calls PySem.W PyProof.Rows PyProof.V PySem.Spec PyProof.Rows.LCg
local macro_rules | `(tactic| walk_at $s:str) => `(tactic| k_extra $(Lean.Syntax.mkStrLit ("LL " ++ s.getString)))
section
variable {prog : Program} {w : World} {p : Program} {loose : List Str} {mean : ExcName → Option Value} {mg mb : Str → Option Value} {dp un : Nat} {gd : Option (List Code)} {cn : Str} {cs : Scope} {a : Addr} {ccd : Value} {cl : List (Str × Addr)} {outer : List Env} {A₀ : Around} {base h₀ : Heap} {L : Addr} {m : Str → Option Value} {news : List (Addr × Obj)} {s : Shared} {Q E : Value → Shared → Prop}
theorem ln_LL_1 : True := by
  try walk1
  k_with "LL k:k_room" => k_extra "ln 0"
  k_with "LL k:k_enter" => k_extra "ln 1"
  k_with "LL my_mem" => k_extra "ln 2"
  k_with "LL k:k_mem" => k_extra "ln 3"
  k_with "LL my_split" => k_extra "ln 4"
  k_with "LL my_ltf" => k_extra "ln 5"
  k_with "LL k:k_ne" => k_extra "ln 6"
  k_with "LL my_reord" => k_extra "ln 7"
  k_with "LL my_all" => k_extra "ln 8"
  k_with "LL k:k_all" => k_extra "ln 9"
  k_with "LL call builtin:len" => k_extra "ln 10"
  k_with "LL subscriptTail" => k_extra "ln 11"
  k_with "LL subscriptTail Name Name ref int" => k_extra "ln 11"
  k_with "LL subscriptTail" => k_extra "ln 12"
  k_with "LL subscriptTail Name Slice ref ref" => k_extra "ln 12"
  k_with "LL call builtin:sum" => k_extra "ln 13"
  k_with "LL my_rows" => k_extra "ln 15"
  k_with "LL my_room" => k_extra "ln 16"
  k_with "LL my_ctx" => k_extra "ln 17"
  k_with "LL my_ctx0" => k_extra "ln 18"
  k_with "LL my_reord" => k_extra "ln 7"
  k_with "ln 120" => (first
  | assumption
  | exact List.Mem.head _
  | (refine List.Mem.tail _ ?_; walk_at "my_mem")
  | (refine mem_of ?_; assumption)
  | (refine mem_left ?_; walk_at "my_mem")
  | (refine mem_right ?_; walk_at "my_mem")
  | ((fail_if_success (refine List.Mem.tail _ ?_)); (fail_if_success (refine mem_left ?_)); first | (refine mem_sub (by with_reducible assumption) ?_; walk_at "my_mem") | (refine mem_subL (by with_reducible assumption) ?_; walk_at "my_mem")))
  k_with "LL my_mem" => k_extra "ln 120"
  k_with "LL my_rows" => k_extra "ln 15"
  k_with "ln 121" => ((k_here; (with_reducible show wpAny _ _ (call (Value.ref 744) _) _ _ _); k_dflt (refine' room_y ?zcB ?zcF ?zcX ?zcN ?zcT ?zchk ?zcdp ?zcun ?z121xV ?z121xn ?z121xR ?z121xx ?z121xtn ?z121xl ?z121xr ?z121xb ?_; (case z121xV => assumption); (case z121xn => exact rfl); (case zcN => exact cb_drop (by assumption) (by walk_at "my_reord")); (walk_at "my_ctx0"); (case z121xR => assumption); (case z121xx => assumption); (case z121xtn => assumption); (case z121xl => k_mem); (case z121xr => walk_at "my_rows"); (case z121xb => omega); k_whole); unfold RetY; intro h'q tk'q oS'q oE'q oV'q ps'q rest'q F'q N'q sub'q V'q))
  k_with "LL call ref" => k_extra "ln 121"
  k_with "ln 122" => ((k_here; (with_reducible show wpAny _ _ (call (Value.ref 190) _) _ _ _); k_dflt (refine' test0_y ?zcB ?zcF ?zcX ?zcN ?zcT ?zchk ?zcdp ?zcun ?z122xV ?z122xn ?z122xR ?z122xb ?_; (case z122xV => assumption); (case z122xn => exact rfl); (case zcN => exact cb_drop (by assumption) (by walk_at "my_reord")); (walk_at "my_ctx0"); (case z122xR => assumption); (case z122xb => omega); k_whole); unfold RetY; intro h'q tk'q oS'q oE'q oV'q ps'q rest'q F'q N'q sub'q V'q))
  k_with "LL call ref" => k_extra "ln 122"
  k_with "ln 123" => ((k_here; (with_reducible show wpAny _ _ (call (Value.ref 190) _) _ _ _); k_dflt (refine' test1_y ?zcB ?zcF ?zcX ?zcN ?zcT ?zchk ?zcdp ?zcun ?z123xV ?z123xn ?z123xR ?z123xb ?_; (case z123xV => assumption); (case z123xn => exact rfl); (case zcN => exact cb_drop (by assumption) (by walk_at "my_reord")); (walk_at "my_ctx0"); (case z123xR => assumption); (case z123xb => omega); k_whole); unfold RetY; intro h'q tk'q oS'q oE'q oV'q ps'q rest'q F'q N'q sub'q V'q))
  k_with "LL call ref" => k_extra "ln 123"
  k_with "ln 124" => ((k_here; (with_reducible show wpAny _ _ (call (Value.ref 229) _) _ _ _); k_dflt (refine' test2_y ?zcB ?zcF ?zcX ?zcN ?zcT ?zchk ?zcdp ?zcun ?z124xV ?z124xn ?z124xR ?z124xx ?z124xtn ?_; (case z124xV => assumption); (case z124xn => exact rfl); (case zcN => exact cb_drop (by assumption) (by walk_at "my_reord")); (walk_at "my_ctx0"); (case z124xR => assumption); (case z124xx => assumption); (case z124xtn => assumption); k_whole); unfold RetY; intro h'q tk'q oS'q oE'q oV'q ps'q rest'q F'q N'q sub'q V'q))
  k_with "LL call ref" => k_extra "ln 124"
  k_with "ln 125" => ((k_here; (with_reducible show wpAny _ _ (call (Value.ref 181) _) _ _ _); k_dflt (refine' no0_y ?zcB ?zcF ?zcX ?zcN ?zcT ?zchk ?zcdp ?zcun ?z125xV ?z125xn ?z125xR ?z125xb ?z125xcp ?z125xhc ?z125xhb ?_; (case z125xV => assumption); (case z125xn => exact rfl); (case zcN => exact cb_drop (by assumption) (by walk_at "my_reord")); (walk_at "my_ctx0"); (case z125xR => assumption); (case z125xb => omega); (case z125xcp => omega); (case z125xhc => assumption); (case z125xhb => assumption); k_whole); unfold RetY; intro h'q tk'q oS'q oE'q oV'q ps'q rest'q F'q N'q sub'q V'q))
  k_with "LL call ref" => k_extra "ln 125"
  k_with "ln 126" => ((k_here; (with_reducible show wpAny _ _ (call (Value.ref 181) _) _ _ _); k_dflt (refine' no1_y ?zcB ?zcF ?zcX ?zcN ?zcT ?zchk ?zcdp ?zcun ?z126xV ?z126xn ?z126xR ?z126xb ?z126xcp ?z126xhc ?z126xhb ?_; (case z126xV => assumption); (case z126xn => exact rfl); (case zcN => exact cb_drop (by assumption) (by walk_at "my_reord")); (walk_at "my_ctx0"); (case z126xR => assumption); (case z126xb => omega); (case z126xcp => omega); (case z126xhc => assumption); (case z126xhb => assumption); k_whole); unfold RetY; intro h'q tk'q oS'q oE'q oV'q ps'q rest'q F'q N'q sub'q V'q))
  k_with "LL call ref" => k_extra "ln 126"
  k_with "ln 127" => ((k_here; (with_reducible show wpAny _ _ (call (Value.ref 181) _) _ _ _); k_dflt (refine' yes0_y ?zcB ?zcF ?zcX ?zcN ?zcT ?zchk ?zcdp ?zcun ?z127xV ?z127xn ?z127xR ?z127xb ?z127xcp ?z127xhc ?z127xhb ?z127xhd ?_; (case z127xV => assumption); (case z127xn => exact rfl); (case zcN => exact cb_drop (by assumption) (by walk_at "my_reord")); (walk_at "my_ctx0"); (case z127xR => assumption); (case z127xb => omega); (case z127xcp => omega); (case z127xhc => assumption); (case z127xhb => assumption); (case z127xhd => assumption); k_whole); unfold RetY; intro h'q tk'q oS'q oE'q oV'q ps'q rest'q F'q N'q sub'q V'q))
  k_with "LL call ref" => k_extra "ln 127"
  k_with "ln 128" => ((k_here; (with_reducible show wpAny _ _ (call (Value.ref 181) _) _ _ _); k_dflt (refine' yes1_y ?zcB ?zcF ?zcX ?zcN ?zcT ?zchk ?zcdp ?zcun ?z128xV ?z128xn ?z128xR ?z128xb ?z128xcp ?z128xhc ?z128xhb ?z128xhd ?_; (case z128xV => assumption); (case z128xn => exact rfl); (case zcN => exact cb_drop (by assumption) (by walk_at "my_reord")); (walk_at "my_ctx0"); (case z128xR => assumption); (case z128xb => omega); (case z128xcp => omega); (case z128xhc => assumption); (case z128xhb => assumption); (case z128xhd => assumption); k_whole); unfold RetY; intro h'q tk'q oS'q oE'q oV'q ps'q rest'q F'q N'q sub'q V'q))
  k_with "LL call ref" => k_extra "ln 128"
  k_with "ln 129" => ((k_here; (with_reducible show wpAny _ _ (call (Value.ref 220) _) _ _ _); k_dflt (refine' yes2_y ?zcB ?zcF ?zcX ?zcN ?zcT ?zchk ?zcdp ?zcun ?z129xV ?z129xn ?z129xR ?z129xx ?z129xtn ?z129xhb ?_; (case z129xV => assumption); (case z129xn => exact rfl); (case zcN => exact cb_drop (by assumption) (by walk_at "my_reord")); (walk_at "my_ctx0"); (case z129xR => assumption); (case z129xx => assumption); (case z129xtn => assumption); (case z129xhb => assumption); k_whole); unfold RetY; intro h'q tk'q oS'q oE'q oV'q ps'q rest'q F'q N'q sub'q V'q))
  k_with "LL call ref" => k_extra "ln 129"
  k_with "ln 130" => ((k_here; (with_reducible show wpAny _ _ (getMethod (Value.ref (Y.gm _)) (Str.ofString "test") _) _ _ _); k_dflt (refine' lim_test_m ?z130xF ?z130xX ?z130xN ?z130xi ?_; (case z130xF => k_asm); (case z130xX => k_asm); (case z130xN => k_asm); (case z130xi => exact LimIn.mono (LawIn.gm (Live.L (by assumption))) (by intro p hp; k_mem)); k_whole)))
  k_with "LL getMethod ref" => k_extra "ln 130"
  k_with "ln 131" => ((k_here; (with_reducible show wpAny _ _ (getMethod (Value.ref (Y.gf _)) (Str.ofString "test") _) _ _ _); k_dflt (refine' lim_test_f ?z131xF ?z131xX ?z131xN ?z131xi ?_; (case z131xF => k_asm); (case z131xX => k_asm); (case z131xN => k_asm); (case z131xi => exact LimIn.mono (LawIn.gf (Live.L (by assumption))) (by intro p hp; k_mem)); k_whole)))
  k_with "LL getMethod ref" => k_extra "ln 131"
  k_with "ln 132" => ((k_here; (with_reducible show wpAny _ _ (getMethod (Value.ref (Y.gm _)) (Str.ofString "hit") _) _ _ _); k_dflt (refine' lim_hit_m ?z132xF ?z132xX ?z132xN ?z132xi ?_; (case z132xF => k_asm); (case z132xX => k_asm); (case z132xN => k_asm); (case z132xi => exact LimIn.mono (LawIn.gm (Live.L (by assumption))) (by intro p hp; k_mem)); k_whole)))
  k_with "LL getMethod ref" => k_extra "ln 132"
  k_with "ln 133" => ((k_here; (with_reducible show wpAny _ _ (getMethod (Value.ref (Y.gf _)) (Str.ofString "hit") _) _ _ _); k_dflt (refine' lim_hit_f ?z133xF ?z133xX ?z133xN ?z133xi ?_; (case z133xF => k_asm); (case z133xX => k_asm); (case z133xN => k_asm); (case z133xi => exact LimIn.mono (LawIn.gf (Live.L (by assumption))) (by intro p hp; k_mem)); k_whole)))
  k_with "LL getMethod ref" => k_extra "ln 133"
  k_with "ln 134" => ((k_here; (with_reducible show wpAny _ _ (subscriptTail _ _ (Value.ref (Z.nw _)) (Value.int 0 _)) _ _ _); k_dflt (refine' now_item ?z134xN ?z134xm ?_ ?z134xd ?z134xe; (case z134xN => k_asm); (case z134xm => k_mem); (case z134xd => with_unfolding_all rfl); (case z134xe => (intro _; with_unfolding_all rfl)); k_whole); intro t'q))
  k_with "LL subscriptTail Name Constant ref int" => k_extra "ln 134"
  k_with "ln 135" => (first
  | exact List.forall_mem_nil _
  | (refine List.forall_mem_cons.mpr ⟨⟨_, _, rfl, ?_⟩, ?_⟩; (focus (show (_ : Int) ≤ _; first | decide | omega | exact Int.fdiv_nonneg (by omega) (by decide))); walk_at "my_menu"))
  k_with "LL my_menu" => k_extra "ln 135"
  k_with "ln 136" => ((k_here; (with_reducible show wpAny _ _ (subscriptTail _ _ (Value.ref _) (Value.int _ _)) _ _ _); k_dflt (first
  | (refine' menu_item (fun c => 1 ≤ c) ?z136xN ?z136xm ?z136xa ?z136xb ?z136xc ?z136xv ?_ ?z136xd; (case z136xN => k_asm); (case z136xm => k_mem); (case z136xv => walk_at "my_menu"); (case z136xa => exact fm_lo (by decide)); (case z136xb => exact fm_lt (by decide)); (case z136xc => exact Int.lt_trans (fm_lt (by decide)) (by decide)); (case z136xd => with_unfolding_all rfl); k_whole)
  | (refine' menu_item (fun c => 0 ≤ c) ?z136xN ?z136xm ?z136xa ?z136xb ?z136xc ?z136xv ?_ ?z136xd; (case z136xN => k_asm); (case z136xm => k_mem); (case z136xv => walk_at "my_menu"); (case z136xa => exact fm_lo (by decide)); (case z136xb => exact fm_lt (by decide)); (case z136xc => exact Int.lt_trans (fm_lt (by decide)) (by decide)); (case z136xd => with_unfolding_all rfl); k_whole)); intro x'q t'q hx'q))
  k_with "LL subscriptTail Tuple cons BinOp ref int" => k_extra "ln 136"
  k_with "ln 137" => ((k_here; (with_reducible show wpAny _ _ (setItem (Value.ref (Z.nw _)) (Value.int 0 _) (Value.int _ _)) _ _ _); k_dflt (refine' now_set ?z137xF ?z137xV ?z137xN ?_; (case z137xF => k_asm); (case z137xV => assumption); (case z137xN => exact cb_drop (by assumption) (by walk_at "my_reord")); k_whole); intro h'q F'q N'q V'q))
  k_with "LL setItem ref int int" => k_extra "ln 137"
  k_with "ln 138" => ((k_here; k_dflt (refine' ne_same ?z138xe ?_; (case z138xe => exact rfl); k_whole)))
  k_with "LL compareOp NotEq bool bool" => k_extra "ln 138"
  k_with "ln 139" => ((k_here; (with_reducible show wpAny _ _ (call (Value.ref 732) _) _ _ _); k_dflt (refine' fits_m ?zcB ?zcF ?zcX ?zcN ?zcT ?zchk ?zcdp ?zcun ?z139xhl ?z139xhr ?z139xhb ?z139xkk ?_; (walk_at "my_ctx"); (case z139xhl => k_mem); (case z139xhr => walk_at "my_rows"); (case z139xhb => walk_at "my_rlen"); (case z139xkk => decide); k_whole); intro h'q tk'q F'q N'q))
  k_with "LL call ref" => k_extra "ln 139"
  k_with "ln 140" => ((k_here; (with_reducible show wpAny _ _ (call (Value.ref 732) _) _ _ _); k_dflt (refine' fits_f ?zcB ?zcF ?zcX ?zcN ?zcT ?zchk ?zcdp ?zcun ?z140xhl ?z140xhr ?z140xhb ?z140xkk ?_; (walk_at "my_ctx"); (case z140xhl => k_mem); (case z140xhr => walk_at "my_rows"); (case z140xhb => walk_at "my_rlen"); (case z140xkk => decide); k_whole); intro h'q tk'q F'q N'q))
  k_with "LL call ref" => k_extra "ln 140"
  k_with "ln 141" => ((k_here; (with_reducible show wpAny _ _ (call (Value.ref 718) _) _ _ _); k_dflt (refine' law_stretches_ok ?zcB ?zcF ?zcX ?zcN ?zcT ?zchk ?zcdp ?zcun ?z141xhl ?z141xhr ?z141xhb ?_; (walk_at "my_ctx"); (case z141xhl => k_mem); (case z141xhr => walk_at "my_rows"); (case z141xhb => walk_at "my_rlen"); k_whole); intro h'q tk'q F'q N'q))
  k_with "LL call ref" => k_extra "ln 141"
  k_with "LL my_rlen" => k_extra "ln 117"
  k_with "ln 142" => ((k_here; k_dflt (refine' row_add ?z142xF ?z142xN ?z142xa ?z142xr ?z142xb ?z142xt ?z142xz ?_; (case z142xF => k_asm); (case z142xN => k_asm); (case z142xa => k_mem); (case z142xr => assumption); (case z142xz => omega); (case z142xb => k_mem); (case z142xt => k_mem); k_whole); intro D'q h'q vs'q F'q N'q l1 hr'q))
  k_with "LL binaryOp Add ref ref" => k_extra "ln 142"
  k_with "ln 143" => ((k_here; (with_reducible show wpAny _ _ (exec (Stmt.If _ [Stmt.Assign _ _ _] [] _) _) _ _ _); (fail_if_success (with_reducible show wpAny _ _ _ (JoinN _ _ _ _ _ _ _ _ _ _ _ _ _ _ _) _ _)); (fail_if_success (with_reducible show wpAny _ _ _ (JoinC _ _ _ _ _) _ _)); refine Stop.out ?_))
  k_with "LL exec If Compare cons nil" => k_extra "ln 143"
  k_with "ln 144" => ((k_here; k_dflt (refine' callWith_K ?z144xk1 ?z144xk2 ?_; (case z144xk1 => k_asm); (case z144xk2 => k_is); k_whole)))
  k_with "LL callWith ref nil nil" => k_extra "ln 144"
  k_with "ln 145" => ((k_here; k_dflt (refine' callWith_K ?z145xk1 ?z145xk2 ?_; (case z145xk1 => k_asm); (case z145xk2 => k_is); k_whole); (try dsimp only [List.nil_append, List.cons_append])))
  k_with "LL callWith ref cons nil" => k_extra "ln 145"
  trivial

section
variable {z : Z} {y : Y} {oSt oEx oEv oN : Obj} {ps : Array Value} {own fr rest : List (Addr × Obj)} {e0 e1 : List Int} {fx : Option (Int × Int)} {cap cap' : Nat} {now : Int}
theorem Live.now_le (_V : Live prog w z y oSt oEx oEv oN ps fr rest e0 e1 fx cap now) : now ≤ now := Int.le_refl _
theorem Live.more (V : Live prog w z y oSt oEx oEv oN ps fr rest e0 e1 fx cap now) (h : cap ≤ cap') : Live prog w z y oSt oEx oEv oN ps fr rest e0 e1 fx cap' now := ⟨V.L, V.S.more h, V.o, V.a⟩
theorem Live.frame (V : Live prog w z y oSt oEx oEv oN ps fr rest e0 e1 fx cap now) (h : OwnOff own (((z.st, oSt) :: (z.ex, oEx) :: (z.ev, oEv) :: (653, tabObj ps) :: (z.nw, oN) :: (fr ++ rest)).map (·.1))) :
    Live prog w z y oSt oEx oEv oN ps (own ++ fr) rest e0 e1 fx cap now := by
  have k : ∀ q ∈ own, ∀ p ∈ (z.st, oSt) :: (z.ex, oEx) :: (z.ev, oEv) :: (653, tabObj ps) :: (z.nw, oN) :: (fr ++ rest), q.1 ≠ p.1 := fun q hq p hp => h q hq p.1 (List.mem_map.mpr ⟨p, hp, rfl⟩)
  have go : ∀ p ∈ (own ++ fr) ++ rest, p ∈ own ∨ p ∈ fr ++ rest := fun p hp => by
    rw [List.append_assoc] at hp
    exact List.mem_append.mp hp
  refine ⟨V.L, V.S, ⟨fun p hp => (go p hp).elim (fun x => k p x _ (.head _)) (V.o.a1 p), fun p hp => (go p hp).elim (fun x => k p x _ (.tail _ (.head _))) (V.o.a2 p), fun p hp => (go p hp).elim (fun x => k p x _ (.tail _ (.tail _ (.head _)))) (V.o.a3 p), fun p hp => (go p hp).elim (fun x => k p x _ (.tail _ (.tail _ (.tail _ (.head _))))) (V.o.a4 p), fun p hp => (go p hp).elim (fun x => k p x _ (.tail _ (.tail _ (.tail _ (.tail _ (.head _)))))) (V.o.a5 p)⟩, fun q hq p hp => ?_⟩
  rcases List.mem_append.mp hq with hq | hq
  · exact k q hq p (.tail _ (.tail _ (.tail _ (.tail _ (.tail _ (mem_right hp))))))
  · exact V.a q hq p hp
theorem Live.unframe (V : Live prog w z y oSt oEx oEv oN ps (own ++ fr) rest e0 e1 fx cap now) : Live prog w z y oSt oEx oEv oN ps fr rest e0 e1 fx cap now := by
  have go : ∀ p ∈ fr ++ rest, p ∈ (own ++ fr) ++ rest := fun p hp => by
    rw [List.append_assoc]
    exact mem_right hp
  exact ⟨V.L, V.S, ⟨fun p hp => V.o.a1 p (go p hp), fun p hp => V.o.a2 p (go p hp), fun p hp => V.o.a3 p (go p hp), fun p hp => V.o.a4 p (go p hp), fun p hp => V.o.a5 p (go p hp)⟩, fun q hq p hp => V.a q (mem_right hq) p hp⟩
theorem lp_end {h' : Heap} {m' : Str → Option Value} {tk : Nat} {J : (Str → Option Value) → List (Addr × Obj) → Prop} (F : Fr h₀ L h' m') (N : News h₀ L h' ((z.st, oSt) :: (z.ex, oEx) :: (z.ev, oEv) :: (653, tabObj ps) :: (z.nw, oN) :: ((own ++ fr) ++ rest)))
    (V : Live prog w z y oSt oEx oEv oN ps (own ++ fr) rest e0 e1 fx cap now) (ho : OwnOff own (fr.map (·.1))) (hj : J m' ((z.st, oSt) :: (z.ex, oEx) :: (z.ev, oEv) :: (653, tabObj ps) :: (z.nw, oN) :: (fr ++ rest))) :
    InvEndG h₀ L J own s { s with heap := h', toks := tk } := by
  refine InvEndG.intro F N hj (fun q hq b hb => ?_) (by walk_at "my_reord") (by walk_at "my_reord")
  · have hq' : q ∈ (own ++ fr) ++ rest := mem_left (mem_left hq)
    simp only [List.map_cons, List.mem_cons, List.map_append, List.mem_append] at hb
    rcases hb with rfl | rfl | rfl | rfl | rfl | hb | hb
    · exact V.o.a1 q hq'
    · exact V.o.a2 q hq'
    · exact V.o.a3 q hq'
    · exact V.o.a4 q hq'
    · exact V.o.a5 q hq'
    · exact ho q hq b hb
    · obtain ⟨p, hp, rfl⟩ := List.mem_map.mp hb
      exact V.a q (mem_left hq) p hp
theorem own_fr (h : OwnOff own (((z.st, oSt) :: (z.ex, oEx) :: (z.ev, oEv) :: (653, tabObj ps) :: (z.nw, oN) :: (fr ++ rest)).map (·.1))) : OwnOff own (fr.map (·.1)) := fun q hq b hb => h q hq b (by
  obtain ⟨p, hp, rfl⟩ := List.mem_map.mp hb
  exact List.mem_map.mpr ⟨p, .tail _ (.tail _ (.tail _ (.tail _ (.tail _ (mem_left hp))))), rfl⟩)
theorem own_news {h : Heap} (N : News h₀ L h (((z.st, oSt) :: (z.ex, oEx) :: (z.ev, oEv) :: (653, tabObj ps) :: (z.nw, oN) :: (fr ++ rest)) ++ own)) : News h₀ L h ((z.st, oSt) :: (z.ex, oEx) :: (z.ev, oEv) :: (653, tabObj ps) :: (z.nw, oN) :: ((own ++ fr) ++ rest)) :=
  cb_drop N (by walk_at "my_reord")
end
theorem loop_start {T D : Addr} {oT oD : Obj} {z : Z} {y : Y} {oSt oEx oEv oN : Obj} {ps : Array Value} {fr rest led : List (Addr × Obj)} {e0 e1 : List Int} {fx : Option (Int × Int)} {cap : Nat} {now : Int} {vs : List Value} {rows : List Row} {h : Heap}
   (_hr : RowsAre ((T, oT) :: rest) vs rows) (V : Live prog w z y oSt oEx oEv oN ps fr rest e0 e1 fx cap now) (lT : AllLt T ((z.st, oSt) :: (z.ex, oEx) :: (z.ev, oEv) :: (653, tabObj ps) :: (z.nw, oN) :: (fr ++ rest)))
   (_N : News h₀ L h ((D, oD) :: led)) (lD : ∀ p ∈ led, p.1 < D) (sub : ∀ p ∈ (z.st, oSt) :: (z.ex, oEx) :: (z.ev, oEv) :: (653, tabObj ps) :: (z.nw, oN) :: (fr ++ ((T, oT) :: rest)), p ∈ led) : Live prog w z y oSt oEx oEv oN ps fr ((D, oD) :: (T, oT) :: rest) e0 e1 fx cap now :=
  (V.push (o := oT) (lt_of_all lT)).push fun p hp => lD p (sub p hp)
theorem loop_rows {T D : Addr} {oT oD : Obj} {rest led : List (Addr × Obj)} {vs : List Value} {rows : List Row} {h : Heap} (hr : RowsAre ((T, oT) :: rest) vs rows) (_N : News h₀ L h ((D, oD) :: led)) : RowsAre ((D, oD) :: (T, oT) :: rest) vs rows :=
  hr.mono fun p hp => .tail _ hp
theorem loop_news {z : Z} {y : Y} {oSt oEx oEv oN : Obj} {ps : Array Value} {fr rest led : List (Addr × Obj)} {e0 e1 : List Int} {fx : Option (Int × Int)} {cap : Nat} {now : Int} {h : Heap} (_V : Live prog w z y oSt oEx oEv oN ps fr rest e0 e1 fx cap now)
   (N : News h₀ L h led) (sub : ∀ p ∈ (z.st, oSt) :: (z.ex, oEx) :: (z.ev, oEv) :: (653, tabObj ps) :: (z.nw, oN) :: (fr ++ rest), p ∈ led) : News h₀ L h ((z.st, oSt) :: (z.ex, oEx) :: (z.ev, oEv) :: (653, tabObj ps) :: (z.nw, oN) :: (fr ++ rest)) := cb_drop N sub
def sureB (f0 f1 f2 : Bool) : Nat → Bool
  | 0 => true
  | 1 => f0
  | 2 => f0 && f1
  | _ => f0 && f1 && f2
def knownB (f0 f1 g0 g1 : Bool) : Nat → Bool
  | 0 => true
  | 1 => !f0 || g0
  | _ => (!f0 || g0) && (!f1 || g1)
section
variable {f0 f1 f2 g0 g1 su kn : Bool}
theorem s0t (h : f0 = true) (e : su = sureB f0 f1 f2 0) : su = sureB f0 f1 f2 (0 + 1) := by subst e; simp [sureB, h]
theorem s0f (h : f0 = false) : false = sureB f0 f1 f2 (0 + 1) := by simp [sureB, h]
theorem s1t (h : f1 = true) (e : su = sureB f0 f1 f2 1) : su = sureB f0 f1 f2 (1 + 1) := by subst e; simp [sureB, h]
theorem s1f (h : f1 = false) : false = sureB f0 f1 f2 (1 + 1) := by simp [sureB, h]
theorem s2t (h : f2 = true) (e : su = sureB f0 f1 f2 2) : su = sureB f0 f1 f2 (2 + 1) := by subst e; simp [sureB, h]
theorem s2f (h : f2 = false) : false = sureB f0 f1 f2 (2 + 1) := by simp [sureB, h]
theorem n0n (h : f0 = false) (e : kn = knownB f0 f1 g0 g1 0) : kn = knownB f0 f1 g0 g1 (0 + 1) := by subst e; simp [knownB, h]
theorem n0t (hf : f0 = true) (h : g0 = true) (e : kn = knownB f0 f1 g0 g1 0) : kn = knownB f0 f1 g0 g1 (0 + 1) := by subst e; simp [knownB, h]
theorem n0f (hf : f0 = true) (h : g0 = false) : false = knownB f0 f1 g0 g1 (0 + 1) := by simp [knownB, hf, h]
theorem n1n (h : f1 = false) (e : kn = knownB f0 f1 g0 g1 1) : kn = knownB f0 f1 g0 g1 (1 + 1) := by subst e; simp [knownB, h]
theorem n1t (hf : f1 = true) (h : g1 = true) (e : kn = knownB f0 f1 g0 g1 1) : kn = knownB f0 f1 g0 g1 (1 + 1) := by subst e; simp [knownB, h]
theorem n1f (hf : f1 = true) (h : g1 = false) : false = knownB f0 f1 g0 g1 (1 + 1) := by simp [knownB, hf, h]
theorem n2n (e : kn = knownB f0 f1 g0 g1 2) : kn = knownB f0 f1 g0 g1 (2 + 1) := by subst e; simp [knownB]
end
/-- the state between the turns of the law's first inner loop -/
inductive Lp1 (prog : Program) (w : World) (z : Z) (y : Y) (ps0 : List (Str × Value)) (rows : List Row) (now : Int) (oN : Obj) (fr rest : List (Addr × Obj)) (cap : Nat) (f0 f1 f2 g0 g1 : Bool) (k : Nat) (m : Str → Option Value) (nx : List (Addr × Obj)) : Prop
  | mk (oSt : _) (oEx : _) (oEv : _) (ps : _) (rest' : _) (fx : _) (t0 : _) (su : _) (kn : _) (q0 : nx = (z.st, oSt) :: (z.ex, oEx) :: (z.ev, oEv) :: (653, tabObj ps) :: (z.nw, oN) :: (fr ++ rest')) (q1 : (∀ p ∈ rest, p ∈ rest')) (q2 : Live prog w z y oSt oEx oEv oN ps fr rest' (evOf rows) (evOf rows) fx (cap + k) now) (q3 : FxOk y.W2 rows t0 fx) (q4 : t0 ≤ now) (q5 : su = sureB f0 f1 f2 k) (q6 : kn = knownB f0 f1 g0 g1 k) (q7 : Has ((Str.ofString "sure", .bool su) :: (Str.ofString "known", .bool kn) :: ps0) m) : Lp1 prog w z y ps0 rows now oN fr rest cap f0 f1 f2 g0 g1 k m nx
/-- the state between the turns of the law's second inner loop -/
inductive Lp2 (prog : Program) (w : World) (z : Z) (y : Y) (ps0 : List (Str × Value)) (rows rows' : List Row) (now : Int) (oN : Obj) (fr rest : List (Addr × Obj)) (cap : Nat) (k : Nat) (m : Str → Option Value) (nx : List (Addr × Obj)) : Prop
  | mk (oSt : _) (oEx : _) (oEv : _) (ps : _) (rest' : _) (fx : _) (t0 : _) (q0 : nx = (z.st, oSt) :: (z.ex, oEx) :: (z.ev, oEv) :: (653, tabObj ps) :: (z.nw, oN) :: (fr ++ rest')) (q1 : (∀ p ∈ rest, p ∈ rest')) (q2 : Live prog w z y oSt oEx oEv oN ps fr rest' (if 0 < k then evOf rows' else evOf rows) (if 1 < k then evOf rows' else evOf rows) fx (cap + k) now) (q3 : (if 2 < k then FxOk y.W2 rows' t0 fx else FxOk y.W2 rows t0 fx)) (q4 : t0 ≤ now) (q5 : Has ps0 m) : Lp2 prog w z y ps0 rows rows' now oN fr rest cap k m nx
abbrev lp1J {prog : Program} {w : World} {z : Z} {y : Y} {oSt oEx oEv oN : Obj} {ps : Array Value} {fr rest : List (Addr × Obj)} {rows : List Row} {e1 : List Int} {fx : Option (Int × Int)} {cap : Nat} {now : Int} (_V : Live prog w z y oSt oEx oEv oN ps fr rest (evOf rows) e1 fx cap now) {c : Int} {vs : List Value} (_hr : RowsAre rest vs (rows ++ [(now, c)])) (ps0 : List (Str × Value)) :
    Nat → (Str → Option Value) → List (Addr × Obj) → Prop :=
  Lp1 prog w z y ps0 rows now oN fr rest cap (fitsM y.A0 y.W0 (rows ++ [(now, c)])) (fitsM y.A1 y.W1 (rows ++ [(now, c)])) (fitsF y.A2 y.W2 none 0 (rows ++ [(now, c)])) (fitsM y.A0 (y.W0 + 1) (rows ++ [(now, c)])) (fitsM y.A1 (y.W1 + 1) (rows ++ [(now, c)]))
abbrev lp2J {prog : Program} {w : World} {z : Z} {y : Y} {oSt oEx oEv oN : Obj} {ps : Array Value} {fr rest : List (Addr × Obj)} {rows : List Row} {e1 : List Int} {fx : Option (Int × Int)} {cap : Nat} {now : Int} (_V : Live prog w z y oSt oEx oEv oN ps fr rest (evOf rows) e1 fx cap now) {c : Int} {vs : List Value} (_hr : RowsAre rest vs (rows ++ [(now, c)])) (ps0 : List (Str × Value)) :
    Nat → (Str → Option Value) → List (Addr × Obj) → Prop :=
  Lp2 prog w z y ps0 rows (rows ++ [(now, c)]) now oN fr rest cap
theorem loop_pack {P : Prop} {T D l cc : Addr} {oT oD o oC : Obj} {z : Z} {y : Y} {oSt oEx oEv oN : Obj} {ps : Array Value} {fr rest : List (Addr × Obj)} {e0 e1 : List Int} {fx : Option (Int × Int)} {cap : Nat} {now : Int} {vs vs' : List Value} {rows rows' : List Row} {h : Heap}
   (V : Live prog w z y oSt oEx oEv oN ps fr ((D, oD) :: (T, oT) :: rest) e0 e1 fx cap now) (hr2 : RowsAre ((D, oD) :: (T, oT) :: rest) vs' rows')
   (N : News h₀ L h ((z.st, oSt) :: (z.ex, oEx) :: (z.ev, oEv) :: (653, tabObj ps) :: (z.nw, oN) :: (fr ++ ((D, oD) :: (T, oT) :: rest)))) (hl : (l, o) ∈ rest) (hr : RowsAre rest vs rows) (hC : (cc, oC) ∈ rest)
   (k : ∀ R, (D, oD) ∈ R → (l, o) ∈ R → RowsAre R vs rows → (cc, oC) ∈ R → Live prog w z y oSt oEx oEv oN ps fr R e0 e1 fx cap now → RowsAre R vs' rows' →
     News h₀ L h ((z.st, oSt) :: (z.ex, oEx) :: (z.ev, oEv) :: (653, tabObj ps) :: (z.nw, oN) :: (fr ++ R)) → P) : P :=
  k _ (.head _) (.tail _ (.tail _ hl)) (hr.mono fun _ h => .tail _ (.tail _ h)) (.tail _ (.tail _ hC)) V hr2 N
theorem all_yes {f0 f1 f2 g0 g1 su kn : Bool} (hs : su = sureB f0 f1 f2 3) (hk : kn = knownB f0 f1 g0 g1 3) (h1 : su = true) (h2 : kn = true) : f0 = true ∧ f1 = true ∧ f2 = true ∧ g0 = true ∧ g1 = true := by
  subst hs hk
  revert f0 f1 f2 g0 g1
  decide
theorem turn_end {e I : Addr} {oe oI : Obj} {z : Z} {y : Y} {oSt oEx oEv oN : Obj} {ps : Array Value} {rest : List (Addr × Obj)} {e0 e1 : List Int} {fx : Option (Int × Int)} {cap : Nat} {now : Int} {h' : Heap} {m' : Str → Option Value} {tk : Nat} {J : (Str → Option Value) → List (Addr × Obj) → Prop} (F : Fr h₀ L h' m')
    (N : News h₀ L h' ((z.st, oSt) :: (z.ex, oEx) :: (z.ev, oEv) :: (653, tabObj ps) :: (z.nw, oN) :: ([(e, oe), (I, oI)] ++ rest))) (V : Live prog w z y oSt oEx oEv oN ps [(e, oe), (I, oI)] rest e0 e1 fx cap now)
    (hj : J m' ((z.st, oSt) :: (z.ex, oEx) :: (z.ev, oEv) :: (653, tabObj ps) :: (z.nw, oN) :: rest)) : EnumEnd h₀ L e I oe oI J s { s with heap := h', toks := tk } := by
  have a1 := V.o.a1 (e, oe) (.head _)
  have a2 := V.o.a2 (e, oe) (.head _)
  have a3 := V.o.a3 (e, oe) (.head _)
  have a4 := V.o.a4 (e, oe) (.head _)
  have a5 := V.o.a5 (e, oe) (.head _)
  have b1 := V.o.a1 (I, oI) (.tail _ (.head _))
  have b2 := V.o.a2 (I, oI) (.tail _ (.head _))
  have b3 := V.o.a3 (I, oI) (.tail _ (.head _))
  have b4 := V.o.a4 (I, oI) (.tail _ (.head _))
  have b5 := V.o.a5 (I, oI) (.tail _ (.head _))
  refine EnumEnd.intro _ F (cb_drop N (by walk_at "my_reord")) ?_ ?_ hj
  · intro p hp
    simp only [List.mem_cons] at hp
    rcases hp with rfl | rfl | rfl | rfl | rfl | hp
    · exact Ne.symm a1
    · exact Ne.symm a2
    · exact Ne.symm a3
    · exact Ne.symm a4
    · exact Ne.symm a5
    · exact Ne.symm (V.a (e, oe) (.head _) p hp)
  · intro p hp
    simp only [List.mem_cons] at hp
    rcases hp with rfl | rfl | rfl | rfl | rfl | hp
    · exact Ne.symm b1
    · exact Ne.symm b2
    · exact Ne.symm b3
    · exact Ne.symm b4
    · exact Ne.symm b5
    · exact Ne.symm (V.a (I, oI) (.tail _ (.head _)) p hp)
end
end
namespace law_holds
theorem tw8170779377897787297 : True := trivial
theorem tw4503035019201841076 : True := trivial
theorem tw12275847060699157868 : True := trivial
theorem tw2829063650774624953 : True := trivial
theorem tw10983241140555628109 : True := trivial
theorem tw11846676642670509255 : True := trivial
theorem tw11576900812866516365 : True := trivial
theorem tw14521376392698553312 : True := trivial
theorem tw12800644894191811977 : True := trivial
theorem tw1414043511812021011 : True := trivial
theorem tw14160533322030094474 : True := trivial
theorem tw447027507633508388 : True := trivial
theorem tw8720880381367431298 : True := trivial
theorem tw6860709855171689206 : True := trivial
theorem tw9168033884955339765 : True := trivial
theorem tw3974387499553966400 : True := trivial
theorem tw9288214680346807717 : True := trivial
theorem tw16641252976520058099 : True := trivial
theorem tw863230966790177721 : True := trivial
theorem tw5950301352895977177 : True := trivial
theorem tw16057390660189216267 : True := trivial
theorem tw13756832539634530601 : True := trivial
theorem tw3672438013989251361 : True := trivial
theorem tw12847567107135931479 : True := trivial
theorem tw2695550118857162214 : True := trivial
theorem tw503957847093417577 : True := trivial
theorem tw11417216600806533712 : True := trivial
theorem tw16805829885119392726 : True := trivial
theorem tw3035144380315620824 : True := trivial
theorem tw4992725456586698614 : True := trivial
theorem tw8514742172934523775 : True := trivial
theorem tw2557128651999224082 : True := trivial
theorem tw7696488724909661519 : True := trivial
theorem tw18165013545707147870 : True := trivial
theorem tw841179935631392477 : True := trivial
theorem tw6168114395901332020 : True := trivial
theorem tw3307954989432871184 : True := trivial
theorem tw2503670479209048990 : True := trivial
theorem tw5044595872519035376 : True := trivial
theorem tw1096898596823417342 : True := trivial
theorem tw2887050238494874643 : True := trivial
theorem tw13482675847692870326 : True := trivial
theorem tw2924946361707170262 : True := trivial
theorem tw18088736630749135056 : True := trivial
theorem tw1393039868726904873 : True := trivial
theorem tw3253568177066640346 : True := trivial
theorem tw1784627337472249616 : True := trivial
theorem tw16893121556090616931 : True := trivial
theorem tw4004520673234814696 : True := trivial
theorem tw7087491825025586495 : True := trivial
theorem tw9403268196540146800 : True := trivial
theorem tw10007947361888340627 : True := trivial
theorem tw14872900085578418628 : True := trivial
theorem tw17256855015280076282 : True := trivial
theorem tw12481875629721207810 : True := trivial
theorem tw14497384708736915567 : True := trivial
theorem tw3756308257209627903 : True := trivial
theorem tw17311987242748728955 : True := trivial
theorem tw6580623548314892615 : True := trivial
theorem tw18261290160731607033 : True := trivial
theorem tw6727219029552735585 : True := trivial
theorem tw17580165497215679439 : True := trivial
theorem tw7408472829698581751 : True := trivial
theorem tw16849284256912671741 : True := trivial
theorem tw15088961453551581880 : True := trivial
theorem tw3882250662718909693 : True := trivial
theorem tw1341266762083198811 : True := trivial
theorem tw13642005409729077643 : True := trivial
theorem tw15132402055313369003 : True := trivial
theorem tw8595599621566935660 : True := trivial
theorem tw4524032621918665186 : True := trivial
theorem tw8890443458166856008 : True := trivial
theorem tw12459966957829302596 : True := trivial
theorem tw8984152853971343422 : True := trivial
theorem tw10944507229479926786 : True := trivial
theorem tw5045712524691215523 : True := trivial
theorem tw1046446015878126456 : True := trivial
theorem tw2090888555730037645 : True := trivial
theorem tw13454136545276886934 : True := trivial
theorem tw9525127294725463027 : True := trivial
theorem tw10301956948240465243 : True := trivial
theorem tw10786798759134214714 : True := trivial
theorem tw18309190362041527269 : True := trivial
theorem tw11133525997344109421 : True := trivial
theorem tw18388893480867403737 : True := trivial
theorem tw7510824731391710808 : True := trivial
theorem tw3769339739266743318 : True := trivial
theorem tw5858263632927829637 : True := trivial
theorem tw7769649832755249146 : True := trivial
theorem tw7123599913665508030 : True := trivial
theorem tw13536078969547264968 : True := trivial
theorem tw2414074194907454277 : True := trivial
theorem tw5506821171919863439 : True := trivial
theorem tw1980014416275693142 : True := trivial
theorem tw3584490593718003838 : True := trivial
theorem tw12547139144490466682 : True := trivial
theorem tw228058311090241170 : True := trivial
theorem tw10565075396839593227 : True := trivial
theorem tw6667284449218939238 : True := trivial
theorem tw17713402740875732926 : True := trivial
theorem tw2008241840959921210 : True := trivial
theorem tw11484002064277903863 : True := trivial
theorem tw7695934317539461687 : True := trivial
theorem tw15789929832340015234 : True := trivial
theorem tw14774650325386425613 : True := trivial
theorem tw13930286571792669329 : True := trivial
theorem tw1447405158688954711 : True := trivial
theorem tw2269544990204364226 : True := trivial
theorem tw179590077315354965 : True := trivial
theorem tw11303081109005220762 : True := trivial
theorem tw18155977372800253590 : True := trivial
theorem tw18135211599370774712 : True := trivial
theorem tw15472126771306010800 : True := trivial
theorem tw16771549258648962210 : True := trivial
theorem tw16947615914383616782 : True := trivial
theorem tw9606376775287448836 : True := trivial
theorem tw1496123403401453975 : True := trivial
theorem tw3186734533307500241 : True := trivial
theorem tw15848713872586308078 : True := trivial
theorem tw12116493165278983582 : True := trivial
theorem tw18026530572120702767 : True := trivial
theorem tw6280930540759022334 : True := trivial
theorem tw1031057903888850656 : True := trivial
theorem tw2602977815382960713 : True := trivial
theorem tw14326059299131336239 : True := trivial
theorem tw3329330481660614911 : True := trivial
theorem tw2580079619333081803 : True := trivial
theorem tw5920216800500632969 : True := trivial
theorem tw808278469055374699 : True := trivial
theorem tw8860054118572591635 : True := trivial
theorem tw4360515638614775343 : True := trivial
theorem tw6347680836309536272 : True := trivial
theorem tw907578622648922086 : True := trivial
theorem tw16009327648451700120 : True := trivial
theorem tw11690447701083486646 : True := trivial
theorem tw3077249439568447194 : True := trivial
theorem tw3602377517896009648 : True := trivial
theorem tw14390602165704524457 : True := trivial
theorem tw13667737974841707781 : True := trivial
theorem tw16760957895259694429 : True := trivial
theorem tw15661869461025623997 : True := trivial
theorem tw15726739188670627701 : True := trivial
theorem tw18340385619391811705 : True := trivial
theorem tw2152083551845799040 : True := trivial
theorem tw18090433342136740992 : True := trivial
theorem tw13983371404066579822 : True := trivial
theorem tw9659893776534165664 : True := trivial
theorem tw3776956092104397036 : True := trivial
theorem tw7556614973213307419 : True := trivial
theorem tw2384963693675321470 : True := trivial
theorem tw16394255666389893801 : True := trivial
theorem tw1724926542741425601 : True := trivial
theorem tw15150646450996357022 : True := trivial
theorem tw4581845663705801772 : True := trivial
theorem tw9423440377400516374 : True := trivial
theorem tw5769158387606399586 : True := trivial
theorem tw12731736397290755891 : True := trivial
theorem tw11426015686315989412 : True := trivial
theorem tw6499956759230125245 : True := trivial
theorem tw13388431603621797793 : True := trivial
theorem tw11100686419730198450 : True := trivial
theorem tw218528332313867021 : True := trivial
theorem tw10516828495840041881 : True := trivial
theorem tw15154110283740273250 : True := trivial
theorem tw3682559726232862161 : True := trivial
theorem tw12294597709558488554 : True := trivial
theorem tw17923851452625207687 : True := trivial
theorem tw2470889107711209942 : True := trivial
theorem tw14822640431511872941 : True := trivial
theorem tw13956741780833797525 : True := trivial
theorem tw17775403365899300489 : True := trivial
theorem tw8266603773606604290 : True := trivial
theorem tw4358403320081769719 : True := trivial
theorem tw14925382992726071281 : True := trivial
theorem tw18051328159682125866 : True := trivial
theorem tw4211113817173803656 : True := trivial
theorem tw14844349234554566270 : True := trivial
theorem tw3438298445031660282 : True := trivial
theorem tw2327590871639926724 : True := trivial
theorem tw17305254018735503138 : True := trivial
theorem tw1905533677188600702 : True := trivial
theorem tw6507877686720480950 : True := trivial
theorem tw9432226000188453795 : True := trivial
theorem tw1713144814433471595 : True := trivial
theorem tw16935243356766158856 : True := trivial
theorem tw59864651932915081 : True := trivial
theorem tw4329158554759489670 : True := trivial
theorem tw5290446586894684566 : True := trivial
theorem tw41732636909640268 : True := trivial
theorem tw1762888911704233025 : True := trivial
theorem tw11067727234611919522 : True := trivial
theorem tw7703727192748681421 : True := trivial
theorem tw16470317323979864763 : True := trivial
theorem tw6751701741844952029 : True := trivial
theorem tw8685087848568736164 : True := trivial
theorem tw8249079356659094474 : True := trivial
theorem tw13068417504975948891 : True := trivial
theorem tw9849722394096787677 : True := trivial
theorem tw12296726922439171297 : True := trivial
theorem tw4889031023730116350 : True := trivial
theorem tw14064573792008682920 : True := trivial
theorem tw13766487248619392586 : True := trivial
theorem tw8982592368679156308 : True := trivial
theorem tw10767655046202684341 : True := trivial
theorem tw17253691774821329096 : True := trivial
theorem tw5432952435368640112 : True := trivial
theorem tw13840902789983287329 : True := trivial
theorem tw9548147230944474901 : True := trivial
theorem tw1928719863018725356 : True := trivial
theorem tw8570087061310353148 : True := trivial
theorem tw6159533029260741167 : True := trivial
theorem tw1303389685018741030 : True := trivial
theorem tw10666784280354678857 : True := trivial
theorem tw1053317679998426468 : True := trivial
theorem tw9187647767651647856 : True := trivial
theorem tw2006301483956418059 : True := trivial
theorem tw15741379261994504178 : True := trivial
theorem tw15695062497276918967 : True := trivial
theorem tw2075624079617657780 : True := trivial
theorem tw3850375180904979519 : True := trivial
theorem tw8572072892066365893 : True := trivial
theorem tw9989359697036934923 : True := trivial
theorem tw9875236377963488844 : True := trivial
theorem tw3494445600050047599 : True := trivial
theorem tw10371022188087798493 : True := trivial
theorem tw5455921660152230842 : True := trivial
theorem tw18221580467831097590 : True := trivial
theorem tw8131574967351443871 : True := trivial
theorem tw7544913113114293122 : True := trivial
theorem tw12850535167719870617 : True := trivial
theorem tw8035577848987061507 : True := trivial
theorem tw10958410103948607464 : True := trivial
theorem tw1232645469590886286 : True := trivial
theorem tw11677100312832694166 : True := trivial
theorem tw11803560295506267724 : True := trivial
theorem tw7479968899032947501 : True := trivial
theorem tw14789792462180790578 : True := trivial
theorem tw17942499455142895165 : True := trivial
theorem tw13902218012105463410 : True := trivial
theorem tw3366817510852727610 : True := trivial
theorem tw15039968919637362723 : True := trivial
theorem tw13055523775352357715 : True := trivial
theorem tw545109181885906688 : True := trivial
theorem tw17364227736987735495 : True := trivial
theorem tw13090375584299260822 : True := trivial
theorem tw676263390381983339 : True := trivial
theorem tw5117662029339320154 : True := trivial
theorem tw11586273756423631628 : True := trivial
theorem tw17607630403765710837 : True := trivial
theorem tw9779807473162285230 : True := trivial
theorem tw10897144627088453450 : True := trivial
theorem tw4441770287765753910 : True := trivial
theorem tw7775064044895347852 : True := trivial
theorem tw3607733795294823564 : True := trivial
theorem tw12456547296908542839 : True := trivial
theorem tw8856317710758748564 : True := trivial
theorem tw1819975233463548508 : True := trivial
theorem tw13182730311906835528 : True := trivial
theorem tw13220211186989608806 : True := trivial
theorem tw2842810181116790245 : True := trivial
theorem tw17046799393618780204 : True := trivial
theorem tw17884844454425935293 : True := trivial
theorem tw784011647948385275 : True := trivial
theorem tw6677821561840896501 : True := trivial
theorem tw1117575151148589468 : True := trivial
theorem tw17348551593414719351 : True := trivial
theorem tw7067974818453428095 : True := trivial
theorem tw3416923247095428876 : True := trivial
theorem tw3979707639553702691 : True := trivial
theorem tw11625900857008200698 : True := trivial
theorem tw17562025525947693838 : True := trivial
theorem tw13476665736869980405 : True := trivial
theorem tw602461330855297101 : True := trivial
theorem tw16106779387088534511 : True := trivial
theorem tw14351635765420936899 : True := trivial
theorem tw10803361673654935901 : True := trivial
theorem tw4037582482628031876 : True := trivial
theorem tw3692103080737180250 : True := trivial
theorem tw15274831704391544125 : True := trivial
theorem tw3196237028118051783 : True := trivial
theorem tw926570990666696690 : True := trivial
theorem tw699380112222796084 : True := trivial
theorem tw7120836010843673076 : True := trivial
theorem tw160851071654074740 : True := trivial
theorem tw2127001594154878533 : True := trivial
theorem tw11583271856484122956 : True := trivial
theorem tw13062906269329963020 : True := trivial
theorem tw7404543985812422374 : True := trivial
theorem tw2395105632611409283 : True := trivial
theorem tw13848119269249539950 : True := trivial
theorem tw9317688335297629284 : True := trivial
theorem tw13116430531795314387 : True := trivial
theorem tw6333624483447246961 : True := trivial
theorem tw15600208629229891331 : True := trivial
theorem tw8312275703017117140 : True := trivial
theorem tw9629251133229016361 : True := trivial
theorem tw14462753142839830455 : True := trivial
theorem tw15052039809756647994 : True := trivial
theorem tw16335311869981183947 : True := trivial
theorem tw723553956927101924 : True := trivial
theorem tw1499712698015984848 : True := trivial
theorem tw13800757232730249582 : True := trivial
theorem tw3742325753681652743 : True := trivial
theorem tw18116031599527039140 : True := trivial
theorem tw8045378594462670225 : True := trivial
theorem tw8922897050441119698 : True := trivial
theorem tw9746213474893016414 : True := trivial
theorem tw10264638600885302300 : True := trivial
theorem tw9975692261777386857 : True := trivial
theorem tw17255088995462705879 : True := trivial
theorem tw3958906441317128266 : True := trivial
theorem tw1689763614830377041 : True := trivial
theorem tw3253820488102484341 : True := trivial
theorem tw5647190250986860303 : True := trivial
theorem tw7169296243666066974 : True := trivial
theorem tw575232530192455986 : True := trivial
theorem tw4492043994082249198 : True := trivial
theorem tw10968802771074238664 : True := trivial
theorem tw2088057726675268939 : True := trivial
theorem tw7910590604623066228 : True := trivial
theorem tw7345768897557615242 : True := trivial
theorem tw3943428198234077543 : True := trivial
theorem tw11881114122080957857 : True := trivial
theorem tw4433843952089619705 : True := trivial
theorem tw1909877003179415225 : True := trivial
theorem tw3426384778480675251 : True := trivial
theorem tw15352218221683021774 : True := trivial
theorem tw10566571302883470556 : True := trivial
theorem tw14354538779393863138 : True := trivial
theorem tw3426337659310251177 : True := trivial
theorem tw14983226153234331074 : True := trivial
theorem tw1099259369241382048 : True := trivial
theorem tw8585773674032094923 : True := trivial
theorem tw1929443778124869092 : True := trivial
theorem tw8297313697389066934 : True := trivial
theorem tw15266101841650200111 : True := trivial
theorem tw11875585622144830927 : True := trivial
theorem tw13280740594461564331 : True := trivial
theorem tw2856731137302751260 : True := trivial
theorem tw13392613628428298086 : True := trivial
theorem tw10346744231138586394 : True := trivial
theorem tw15014403891855920072 : True := trivial
theorem tw2442502879453312968 : True := trivial
theorem tw13425932534011304816 : True := trivial
theorem tw17180001009569633970 : True := trivial
theorem tw3896150654470677357 : True := trivial
theorem tw15607887362523206001 : True := trivial
theorem tw8472228645029834797 : True := trivial
theorem tw6911747868599837429 : True := trivial
theorem tw2124134355350193313 : True := trivial
theorem tw13201514481490785233 : True := trivial
theorem tw7408322871517469003 : True := trivial
theorem tw9212889513913684515 : True := trivial
theorem tw8957123355933967898 : True := trivial
theorem tw16462895619179043833 : True := trivial
theorem tw7472407996622490835 : True := trivial
theorem tw10441050188594101415 : True := trivial
theorem tw2556469441272176448 : True := trivial
theorem tw11781800970755023335 : True := trivial
theorem tw3927331946688356228 : True := trivial
theorem tw3586223124089845285 : True := trivial
theorem tw11297062200503488469 : True := trivial
theorem tw14506525250483169144 : True := trivial
theorem tw2102315897755806987 : True := trivial
theorem tw519298541982818421 : True := trivial
theorem tw16883458599210261866 : True := trivial
theorem tw17345407343664743607 : True := trivial
theorem tw12303009252429188658 : True := trivial
theorem tw16406091861079842607 : True := trivial
theorem tw17253903310271361901 : True := trivial
theorem tw12855173809612906512 : True := trivial
theorem tw14498155544194170393 : True := trivial
theorem tw13959763950245974101 : True := trivial
theorem tw10764541510735364805 : True := trivial
theorem tw5229605994807718640 : True := trivial
theorem tw18155623678392573649 : True := trivial
theorem tw8939018918628865471 : True := trivial
theorem tw6881874429007886204 : True := trivial
theorem tw2865737869514987218 : True := trivial
theorem tw4072507727158212662 : True := trivial
theorem tw10679931392274172632 : True := trivial
theorem tw4635674611617693574 : True := trivial
theorem tw8441880690091102137 : True := trivial
theorem tw16066104587097768911 : True := trivial
theorem tw12889673554181485818 : True := trivial
theorem tw2665602086022161900 : True := trivial
theorem tw15006436103509636135 : True := trivial
theorem tw14377833709258309704 : True := trivial
theorem tw15883345262158282383 : True := trivial
theorem tw4575823598074768960 : True := trivial
theorem tw4012412122566942357 : True := trivial
theorem tw4124640904062056756 : True := trivial
theorem tw10189704592693192966 : True := trivial
theorem tw11126432536435168541 : True := trivial
theorem tw17419225075052043924 : True := trivial
theorem tw4008084134468147086 : True := trivial
theorem tw850272041215511910 : True := trivial
theorem tw8069529665006113395 : True := trivial
theorem tw2401843486660128364 : True := trivial
theorem tw10188763426450519768 : True := trivial
theorem tw5781380259314154910 : True := trivial
theorem tw8806649888931605024 : True := trivial
theorem tw669063445224795674 : True := trivial
theorem tw12108977868540685583 : True := trivial
theorem tw14571795756577361901 : True := trivial
theorem tw9843604407834444796 : True := trivial
theorem tw5765542928187402639 : True := trivial
theorem tw367903286550418209 : True := trivial
theorem tw17122233677790987533 : True := trivial
theorem tw12949845418750544790 : True := trivial
theorem tw14289194402921355359 : True := trivial
theorem tw16170062445108390699 : True := trivial
theorem tw14875730727996063832 : True := trivial
theorem tw1377309892636839040 : True := trivial
theorem tw12645607732203181651 : True := trivial
theorem tw16184459414616452189 : True := trivial
theorem tw15646520184464998804 : True := trivial
theorem tw4818577856007422655 : True := trivial
theorem tw8909828626151137519 : True := trivial
theorem tw14637292938222569738 : True := trivial
theorem tw16273140198857503625 : True := trivial
theorem tw3258674603298201628 : True := trivial
theorem tw9887912731928775018 : True := trivial
theorem tw8210953160692291510 : True := trivial
theorem tw12780804625047726367 : True := trivial
theorem tw1681173693875575501 : True := trivial
theorem tw8481075993509181622 : True := trivial
theorem tw18254337876149969668 : True := trivial
theorem tw9009705080361974123 : True := trivial
theorem tw10368410895845634921 : True := trivial
theorem tw972601921857779769 : True := trivial
theorem tw15567558954438479688 : True := trivial
theorem tw12668044768207566790 : True := trivial
theorem tw3674665740742831893 : True := trivial
theorem tw13674158931818614880 : True := trivial
theorem tw10725132931349513577 : True := trivial
theorem tw1819244514083003361 : True := trivial
theorem tw660297872995803996 : True := trivial
theorem tw5222685764011923507 : True := trivial
theorem tw4517222822008671029 : True := trivial
theorem tw3502462603103325571 : True := trivial
theorem tw3005452535816212104 : True := trivial
theorem tw15917412866852771543 : True := trivial
theorem tw11378576750377235499 : True := trivial
theorem tw5087963091746180759 : True := trivial
theorem tw4593294709026258786 : True := trivial
theorem tw5788311673091338880 : True := trivial
theorem tw8040771413219435098 : True := trivial
theorem tw2211468639325271704 : True := trivial
theorem tw5788490908846893860 : True := trivial
theorem tw15162217921772873613 : True := trivial
theorem tw2175471002772951711 : True := trivial
theorem tw6882020374766023752 : True := trivial
theorem tw6719018230134327050 : True := trivial
theorem tw3110860835449505704 : True := trivial
theorem tw17294823503141414406 : True := trivial
theorem tw4916342969005030805 : True := trivial
theorem tw17333074002647195236 : True := trivial
theorem tw14988988175077273356 : True := trivial
theorem tw11463670642173560981 : True := trivial
theorem tw9871626496009991038 : True := trivial
theorem tw2782584491509435139 : True := trivial
theorem tw6319825239189999033 : True := trivial
theorem tw15483129889696659574 : True := trivial
theorem tw5112083995522966620 : True := trivial
theorem tw2382714987290314120 : True := trivial
theorem tw607667584577438428 : True := trivial
theorem tw16765433158599729185 : True := trivial
theorem tw3910120701321347557 : True := trivial
theorem tw13257055565626018733 : True := trivial
theorem tw10977758072711909379 : True := trivial
theorem tw1193751542720294520 : True := trivial
theorem tw2798143973674455058 : True := trivial
theorem tw14883556706271630602 : True := trivial
theorem tw13028658284911697911 : True := trivial
theorem tw16332274672890094952 : True := trivial
theorem tw12831907817818079685 : True := trivial
theorem tw15031514592837009168 : True := trivial
theorem tw5725672013846136890 : True := trivial
theorem tw10242277825702978295 : True := trivial
theorem tw10486713781251687710 : True := trivial
theorem tw17911580528928914924 : True := trivial
theorem tw7313538909654459803 : True := trivial
theorem tw5842969613912506279 : True := trivial
theorem tw4820369329881294799 : True := trivial
theorem tw13921793114692110018 : True := trivial
theorem tw15123554796541802991 : True := trivial
theorem tw4614512636035447770 : True := trivial
theorem tw17249539165995611551 : True := trivial
theorem tw4568741812840581045 : True := trivial
theorem tw11823568539219059922 : True := trivial
theorem tw8634839017697508684 : True := trivial
theorem tw4515466672771955728 : True := trivial
theorem tw9529696498207198238 : True := trivial
theorem tw17758146289354676595 : True := trivial
theorem tw7743764779111840046 : True := trivial
theorem tw15829985883664642994 : True := trivial
theorem tw11167238688639235718 : True := trivial
theorem tw2823118279179183905 : True := trivial
theorem tw1556451293825771818 : True := trivial
theorem tw13528896222378765290 : True := trivial
theorem tw8835965917227929528 : True := trivial
theorem tw7484302960587174374 : True := trivial
theorem tw7356724547972884604 : True := trivial
theorem tw15873654808861938513 : True := trivial
theorem tw9965324091349369512 : True := trivial
theorem tw8157880013524578536 : True := trivial
theorem tw10108825076125807744 : True := trivial
theorem tw5405950176245079350 : True := trivial
theorem tw9013377322688217293 : True := trivial
theorem tw11240126127631740588 : True := trivial
theorem tw3046938939346580660 : True := trivial
theorem tw16963379459963715452 : True := trivial
theorem tw2136269947727277649 : True := trivial
theorem tw8666519363043736892 : True := trivial
theorem tw3663427449441712954 : True := trivial
theorem tw2039724139929955007 : True := trivial
theorem tw14385925486924208373 : True := trivial
theorem tw18197852217732850983 : True := trivial
theorem tw6861490101519172755 : True := trivial
theorem tw8191475993861738794 : True := trivial
theorem tw5488932636959071455 : True := trivial
theorem tw17371252989657294990 : True := trivial
theorem tw16122234104351945819 : True := trivial
theorem tw11556845855556705167 : True := trivial
theorem tw5451054884063135654 : True := trivial
theorem tw11956458263131016624 : True := trivial
theorem tw13958071646730322851 : True := trivial
theorem tw17499823404086765753 : True := trivial
theorem tw5989267464594152519 : True := trivial
theorem tw9290190842861060508 : True := trivial
theorem tw18234560199702728603 : True := trivial
theorem tw3920392572372402345 : True := trivial
theorem tw2376695672464595844 : True := trivial
theorem tw11169275537108399364 : True := trivial
theorem tw8854015012368427407 : True := trivial
theorem tw3136910860242942599 : True := trivial
theorem tw16720094985154256693 : True := trivial
theorem tw11223184984439025696 : True := trivial
theorem tw15617896438947887921 : True := trivial
theorem tw1382677567924326555 : True := trivial
theorem tw1588742098881680585 : True := trivial
theorem tw1791086108937442324 : True := trivial
theorem tw7660400162925590741 : True := trivial
theorem tw194939583717160490 : True := trivial
theorem tw15452448965706171373 : True := trivial
theorem tw8984712037535005518 : True := trivial
theorem tw13677857801504540592 : True := trivial
theorem tw12442163767917924457 : True := trivial
theorem tw10102834934717047885 : True := trivial
theorem tw7346270606818648071 : True := trivial
theorem tw270554467692517631 : True := trivial
theorem tw2558664710541493025 : True := trivial
theorem tw3127913417769977931 : True := trivial
theorem tw17848598403364733487 : True := trivial
theorem tw6422110493013459292 : True := trivial
theorem tw6837162412863275959 : True := trivial
theorem tw2139843940965253949 : True := trivial
theorem tw13650905803964671038 : True := trivial
theorem tw11532970265236058100 : True := trivial
theorem tw7089819591129360890 : True := trivial
theorem tw1622690429015379626 : True := trivial
theorem tw12874571214893485439 : True := trivial
theorem tw16245577235439221107 : True := trivial
theorem tw3390839446522356110 : True := trivial
theorem tw733571504165245281 : True := trivial
theorem tw7311554392007033315 : True := trivial
theorem tw2446358144275080391 : True := trivial
theorem tw11283290899035178999 : True := trivial
theorem tw11404014056486942332 : True := trivial
theorem tw12210932052861102225 : True := trivial
theorem tw17899081815984039989 : True := trivial
theorem tw7304591109411159013 : True := trivial
theorem tw14904137174637212347 : True := trivial
theorem tw10841264019214440115 : True := trivial
theorem tw4080157896497106081 : True := trivial
theorem tw4146061822495498468 : True := trivial
theorem tw16304597777127572320 : True := trivial
theorem tw326997939128634323 : True := trivial
theorem tw3809755536050820187 : True := trivial
theorem tw15140378357190847165 : True := trivial
theorem tw9483915327669328748 : True := trivial
theorem tw2851267720448770887 : True := trivial
theorem tw245764215241151709 : True := trivial
theorem tw14677013365202126530 : True := trivial
theorem tw5212653520564569363 : True := trivial
theorem tw9759124837219819334 : True := trivial
theorem tw17974257514489008736 : True := trivial
theorem tw9897484093202304508 : True := trivial
theorem tw5731563423909890137 : True := trivial
theorem tw4439653461905209652 : True := trivial
theorem tw6952626026076278478 : True := trivial
theorem tw123295346585929383 : True := trivial
theorem tw10609929442622069884 : True := trivial
theorem tw3816018429785431304 : True := trivial
theorem tw9207643191828677137 : True := trivial
theorem tw6709271908398517637 : True := trivial
theorem tw2043166853727251185 : True := trivial
theorem tw3551631022101015893 : True := trivial
theorem tw16563099163409725306 : True := trivial
theorem tw2643161274291862537 : True := trivial
theorem tw2644310842459337959 : True := trivial
theorem tw16827775902095551856 : True := trivial
theorem tw9758593294864014727 : True := trivial
theorem tw13342137609418717338 : True := trivial
theorem tw8312341600987523519 : True := trivial
theorem tw13402424001964919149 : True := trivial
theorem tw9502071092897418529 : True := trivial
theorem tw2112619612379961697 : True := trivial
theorem tw14746732674962391887 : True := trivial
theorem tw5640673133297012132 : True := trivial
theorem tw5994716906283268228 : True := trivial
theorem tw18015220434594434746 : True := trivial
theorem tw3028213030429885723 : True := trivial
theorem tw14828999820898988419 : True := trivial
theorem tw14646867148444618371 : True := trivial
theorem tw16165715940066559518 : True := trivial
theorem tw1737005901722704485 : True := trivial
theorem tw13336368349410954346 : True := trivial
theorem tw5514985750730242732 : True := trivial
theorem tw2016121425191149895 : True := trivial
theorem tw811035903429128223 : True := trivial
theorem tw8549365171731915398 : True := trivial
theorem tw498061464947678834 : True := trivial
theorem tw12291295341487003417 : True := trivial
theorem tw1258919526383655059 : True := trivial
theorem tw1997475870405608531 : True := trivial
theorem tw12001131798957381970 : True := trivial
theorem tw15293083901398250104 : True := trivial
theorem tw6869992995446874880 : True := trivial
theorem tw14531881819706719225 : True := trivial
theorem tw9992725586745946429 : True := trivial
theorem tw2667362832866536986 : True := trivial
theorem tw445335354869643106 : True := trivial
theorem tw4781243967656130014 : True := trivial
theorem tw16192464803593610453 : True := trivial
theorem tw9634471323475708679 : True := trivial
theorem tw2414130084998747865 : True := trivial
theorem tw10442559174759676424 : True := trivial
theorem tw14991590004735058009 : True := trivial
theorem tw7983211939772527470 : True := trivial
theorem tw13431030151845061361 : True := trivial
theorem tw8790382262760724670 : True := trivial
theorem tw2414361068126709639 : True := trivial
theorem tw5584096483412462516 : True := trivial
theorem tw3033269912633744064 : True := trivial
theorem tw3912811242725288453 : True := trivial
theorem tw14997073306097389879 : True := trivial
theorem tw14596297492920191028 : True := trivial
theorem tw7351129398174139865 : True := trivial
theorem tw3783255490424437341 : True := trivial
theorem tw8061732933902216757 : True := trivial
theorem tw2731376850318366449 : True := trivial
theorem tw18312799740870528207 : True := trivial
theorem tw15644819842384902770 : True := trivial
theorem tw16098122237329998606 : True := trivial
theorem tw12977093529070104392 : True := trivial
theorem tw3625451137614018508 : True := trivial
theorem tw6354221664691742131 : True := trivial
theorem tw7185456241796803578 : True := trivial
theorem tw8330938851228082562 : True := trivial
theorem tw11721147071786614939 : True := trivial
theorem tw1710076424337546998 : True := trivial
theorem tw881140697980615281 : True := trivial
theorem tw71255217949683197 : True := trivial
theorem tw8829074647290719032 : True := trivial
theorem tw12663309570017281627 : True := trivial
theorem tw14252543395802736299 : True := trivial
theorem tw293627430662643474 : True := trivial
theorem tw2322801206320994539 : True := trivial
theorem tw14335913921861858828 : True := trivial
theorem tw11599213532126039444 : True := trivial
theorem tw12134956360726941196 : True := trivial
theorem tw17458534234597298029 : True := trivial
theorem tw8176227357466254829 : True := trivial
theorem tw18006792725990754497 : True := trivial
theorem tw11206171021150027133 : True := trivial
theorem tw8763168800255643514 : True := trivial
theorem tw5898729028444588960 : True := trivial
theorem tw10093380194815717143 : True := trivial
theorem tw2139172203440323022 : True := trivial
theorem tw16606368319796509530 : True := trivial
theorem tw6833386782581465115 : True := trivial
theorem tw11609493526922420660 : True := trivial
theorem tw15242022910975006910 : True := trivial
theorem tw9826770418859484059 : True := trivial
theorem tw11924911360389889469 : True := trivial
theorem tw11918526154901971515 : True := trivial
theorem tw5364902710198789758 : True := trivial
theorem tw8804120190785687885 : True := trivial
theorem tw11105637891918601099 : True := trivial
theorem tw17169043682955552997 : True := trivial
theorem tw16836969012518115619 : True := trivial
theorem tw12476058986133298565 : True := trivial
theorem tw3049941959672503198 : True := trivial
theorem tw1778412455037948541 : True := trivial
theorem tw1995169965324791860 : True := trivial
theorem tw12530434298281375070 : True := trivial
theorem tw10812634152524527747 : True := trivial
theorem tw3572487005457819259 : True := trivial
theorem tw7699555767970713544 : True := trivial
theorem tw11098625913536864229 : True := trivial
theorem tw18221428039690301666 : True := trivial
theorem tw6317479115527610633 : True := trivial
theorem tw12094304481075855914 : True := trivial
theorem tw17137235678499792623 : True := trivial
theorem tw6603102845771900818 : True := trivial
theorem tw3024374315939245509 : True := trivial
theorem tw15802469936163623734 : True := trivial
theorem tw1186782194237197914 : True := trivial
theorem tw8785698371604719795 : True := trivial
theorem tw10283916278828761575 : True := trivial
theorem tw16092355726972411579 : True := trivial
theorem tw1989176631692091739 : True := trivial
theorem tw15527639110640922598 : True := trivial
theorem tw6041440012092600215 : True := trivial
theorem tw17865009358878524859 : True := trivial
theorem tw17792525830624384078 : True := trivial
theorem tw11046636381182338224 : True := trivial
theorem tw14358080080312658767 : True := trivial
theorem tw13190408463805328480 : True := trivial
theorem tw2903333896348957400 : True := trivial
theorem tw16873695467490121585 : True := trivial
theorem tw8553002610548859549 : True := trivial
theorem tw9552830710289189752 : True := trivial
theorem tw4886312948824227682 : True := trivial
theorem tw16625653849559256525 : True := trivial
theorem tw16190678330180157336 : True := trivial
theorem tw12597187120891498251 : True := trivial
theorem tw9184033795430018204 : True := trivial
theorem tw8715444014776630742 : True := trivial
theorem tw3339164412607631549 : True := trivial
theorem tw1247253217256132012 : True := trivial
theorem tw14908662282237933112 : True := trivial
theorem tw10726639523019406850 : True := trivial
theorem tw11807458097852795031 : True := trivial
theorem tw14350573489546498162 : True := trivial
theorem tw724200737284857819 : True := trivial
theorem tw4464252984393422682 : True := trivial
theorem tw11764581739189218997 : True := trivial
theorem tw11049323685429826671 : True := trivial
theorem tw11529623632075647382 : True := trivial
theorem tw15884304794012968992 : True := trivial
theorem tw13590972695719381181 : True := trivial
theorem tw14489315793263303861 : True := trivial
theorem tw4273555757443719353 : True := trivial
theorem tw16482278838752557086 : True := trivial
theorem tw6934448944433832347 : True := trivial
theorem tw17027635718292003107 : True := trivial
theorem tw14499810825090155391 : True := trivial
theorem tw11795792742502079742 : True := trivial
theorem tw1335265377702380343 : True := trivial
theorem tw7480714314260584917 : True := trivial
theorem tw11289095316329951393 : True := trivial
theorem tw11946022803392826334 : True := trivial
theorem tw13250372474279835810 : True := trivial
theorem tw10709909458450059161 : True := trivial
theorem tw3012480247710183994 : True := trivial
theorem tw16202244259718314570 : True := trivial
theorem tw13780023080261437657 : True := trivial
theorem tw9220624806794609946 : True := trivial
theorem tw3956099054510807996 : True := trivial
theorem tw11666318101497114028 : True := trivial
theorem tw2096525686368166746 : True := trivial
theorem tw7356349956106387506 : True := trivial
theorem tw3959601488294255719 : True := trivial
theorem tw16873799427995575018 : True := trivial
theorem tw576407869801174206 : True := trivial
theorem tw11097158420108258118 : True := trivial
theorem tw13301187468288870568 : True := trivial
theorem tw15533563059666576871 : True := trivial
theorem tw7987243290614416497 : True := trivial
theorem tw455179833554555240 : True := trivial
theorem tw3756957479349018193 : True := trivial
theorem tw13294052699122959228 : True := trivial
theorem tw3595789414353437717 : True := trivial
theorem tw4913491355128607118 : True := trivial
theorem tw17830944117370523080 : True := trivial
theorem tw6674817763981286723 : True := trivial
theorem tw7407239408455114201 : True := trivial
theorem tw1242418559920758562 : True := trivial
theorem tw15806970514647361693 : True := trivial
theorem tw16099233806120587224 : True := trivial
theorem tw15837452725152343555 : True := trivial
theorem tw15359609613788013507 : True := trivial
theorem tw16914220770136414715 : True := trivial
theorem tw17942709131360195518 : True := trivial
theorem tw8058563674847773909 : True := trivial
theorem tw12223724995276690173 : True := trivial
theorem tw5274592661964301406 : True := trivial
theorem tw3955097671198598788 : True := trivial
theorem tw9524400087533092186 : True := trivial
theorem tw10350734228115807855 : True := trivial
theorem tw12423290165067640415 : True := trivial
theorem tw7917754353467396125 : True := trivial
theorem tw18269650602155537469 : True := trivial
theorem tw6116483010803129801 : True := trivial
theorem tw3545908947808057021 : True := trivial
theorem tw12732824653754844360 : True := trivial
theorem tw9069877914133315304 : True := trivial
theorem tw145366339536180231 : True := trivial
theorem tw7497986649931050792 : True := trivial
theorem tw9032088933897422861 : True := trivial
theorem tw8369274380968253667 : True := trivial
theorem tw7767266014307106701 : True := trivial
theorem tw981846192996546977 : True := trivial
theorem tw7283070072754485986 : True := trivial
theorem tw15720521576913467304 : True := trivial
theorem tw2295933128562542503 : True := trivial
theorem tw16898189318038581234 : True := trivial
theorem tw6189876280036216102 : True := trivial
theorem tw8712014163911447464 : True := trivial
theorem tw6122225920155410508 : True := trivial
theorem tw7604666192120794032 : True := trivial
theorem tw17044581251229063488 : True := trivial
theorem tw9255152265573255198 : True := trivial
theorem tw7566432030715092817 : True := trivial
theorem tw15544829507116839252 : True := trivial
theorem tw12835091436910803158 : True := trivial
theorem tw2303879751551577860 : True := trivial
theorem tw1035469204868569938 : True := trivial
theorem tw5542243279508502960 : True := trivial
theorem tw745255978533919091 : True := trivial
theorem tw10362271348294423435 : True := trivial
theorem tw12115171985352901274 : True := trivial
theorem tw6377815916425241027 : True := trivial
theorem tw5926295103528105954 : True := trivial
theorem tw12320438053989627958 : True := trivial
theorem tw13342518741750886279 : True := trivial
theorem tw13764565513733321988 : True := trivial
theorem tw14892801356780361778 : True := trivial
theorem tw8417186165934385351 : True := trivial
theorem tw9432397437662838624 : True := trivial
theorem tw18203989763732354715 : True := trivial
theorem tw17264387287909652857 : True := trivial
theorem tw1419239623039772522 : True := trivial
theorem tw7019463264422422977 : True := trivial
theorem tw12419048959643632839 : True := trivial
theorem tw12795448055554024986 : True := trivial
theorem tw3721179886434227535 : True := trivial
theorem tw13882729330811710610 : True := trivial
theorem tw13012089966726956846 : True := trivial
theorem tw13087128984098923117 : True := trivial
theorem tw11347954631545130290 : True := trivial
theorem tw2782419253953178936 : True := trivial
theorem tw15522444059895599089 : True := trivial
theorem tw14390095281932903014 : True := trivial
theorem tw2384872892506856444 : True := trivial
theorem tw2387193687640843687 : True := trivial
theorem tw13190703287169160282 : True := trivial
theorem tw4989564714963912036 : True := trivial
theorem tw7014720503175028613 : True := trivial
theorem tw16701994192336326122 : True := trivial
theorem tw16978406815995349258 : True := trivial
theorem tw462603977267732627 : True := trivial
theorem tw11315637435222106236 : True := trivial
theorem tw9442120237013122589 : True := trivial
theorem tw14957179600199517237 : True := trivial
theorem tw10027879121665395642 : True := trivial
theorem tw10079444305495103266 : True := trivial
theorem tw16691439815215545270 : True := trivial
theorem tw12687621791434340054 : True := trivial
theorem tw14958138559613512185 : True := trivial
theorem tw3381667417286267614 : True := trivial
theorem tw16381176275627223697 : True := trivial
theorem tw12395405093167943222 : True := trivial
theorem tw10870653069706475693 : True := trivial
theorem tw6723812968561706957 : True := trivial
theorem tw11129157725520112330 : True := trivial
theorem tw1191432763711471526 : True := trivial
theorem tw8283681822388582728 : True := trivial
theorem tw11714151634956498000 : True := trivial
theorem tw14918994710005357087 : True := trivial
theorem tw10360522573172651426 : True := trivial
theorem tw11803358882649189518 : True := trivial
theorem tw1722738952054099684 : True := trivial
theorem tw4741859662064258567 : True := trivial
theorem tw1172607208729018732 : True := trivial
theorem tw17529362906406652863 : True := trivial
theorem tw12503156628232749375 : True := trivial
theorem tw8285764192309689115 : True := trivial
theorem tw12907034410608036548 : True := trivial
theorem tw15341342317828512493 : True := trivial
theorem tw7636989558263936852 : True := trivial
theorem tw5907203647135998699 : True := trivial
theorem tw17089861810051081540 : True := trivial
end law_holds
section
open Lean PySem PySem.Calls PySem.W PyProof.Rows PyProof.V PySem.Spec PyProof.Rows.LCg
local macro_rules | `(tactic| walk_at $s:str) => `(tactic| k_extra $(Lean.Syntax.mkStrLit ("LAW " ++ s.getString)))
local macro_rules | `(tactic| walk_at "none") => `(tactic| fail)
section
variable {prog : Program} {w : World} {p : Program} {loose : List Str} {mean : ExcName → Option Value} {mg mb : Str → Option Value} {dp un : Nat} {gd : Option (List Code)} {cn : Str} {cs : Scope} {a : Addr} {ccd : Value} {cl : List (Str × Addr)} {outer : List Env} {A₀ : Around} {base h₀ : Heap} {L : Addr} {m : Str → Option Value} {news : List (Addr × Obj)} {s : Shared} {Q E : Value → Shared → Prop}
theorem ln_LAW_1 : True := by
  try walk1
  k_with "LAW k:k_room" => k_extra "ln 0"
  k_with "LAW k:k_enter" => k_extra "ln 1"
  k_with "LAW my_mem" => k_extra "ln 2"
  k_with "LAW k:k_mem" => k_extra "ln 3"
  k_with "LAW my_split" => k_extra "ln 4"
  k_with "LAW my_ltf" => k_extra "ln 5"
  k_with "LAW k:k_ne" => k_extra "ln 6"
  k_with "LAW my_reord" => k_extra "ln 7"
  k_with "LAW my_all" => k_extra "ln 8"
  k_with "LAW k:k_all" => k_extra "ln 9"
  k_with "LAW call builtin:len" => k_extra "ln 10"
  k_with "LAW subscriptTail" => k_extra "ln 11"
  k_with "LAW subscriptTail Name Name ref int" => k_extra "ln 11"
  k_with "LAW subscriptTail" => k_extra "ln 12"
  k_with "LAW subscriptTail Name Slice ref ref" => k_extra "ln 12"
  k_with "LAW call builtin:sum" => k_extra "ln 13"
  trivial


theorem isl_keep {h : Heap} {l : Addr} {vs : Array Value} (H : h₀.IsList l vs) (F : Fr h₀ L h m) : h.IsList l vs := let ⟨o, e, r⟩ := H; ⟨o, F.keep _ _ e, r⟩
theorem ln_LAW_2 : True := by
  k_with "ln 146" => ((k_here; (with_reducible show wpAny _ _ (call (Value.builtin "sum") [Value.ref _]) _ _ _); k_dflt (refine' sumK ?z146xk0 ?z146xk1 ?z146xk2 ?z146xk3 ?z146xk4 ?_; (case z146xk0 => with_unfolding_all rfl); (case z146xk1 => k_asm); (case z146xk2 => k_asm); (case z146xk3 => exact isl_keep (by assumption) (by k_asm)); (case z146xk4 => assumption); k_whole); intro h'q tk'q t'q F'q N'q))
  k_with "LAW call builtin:sum cons nil" => k_extra "ln 146"
  trivial

theorem fm_lo {a k : Int} (h : 0 < k) : 0 ≤ a.fmod k := Int.fmod_nonneg_of_pos a h
theorem fm_lt {a k : Int} (h : 0 < k) : a.fmod k < k := Int.fmod_lt_of_pos a h
theorem fm_hi {a k c : Int} (h : 0 < k) (hc : k ≤ c + 1) : a.fmod k ≤ c := by have := fm_lt (a := a) h; omega
theorem fm_lo1 {a b k c : Int} (h : 0 < k) (hc : c ≤ b) : c ≤ b + a.fmod k := by have := fm_lo (a := a) h; omega
theorem fm_hi1 {a b k c : Int} (h : 0 < k) (hc : b + k ≤ c + 1) : b + a.fmod k ≤ c := by have := fm_lt (a := a) h; omega
theorem ln_LAW_3 : True := by
  k_with "ln 147" => (first | exact fm_lo (by decide) | exact fm_hi (by decide) (by decide) | exact fm_lo1 (by decide) (by decide) | exact fm_hi1 (by decide) (by decide))
  k_with "LAW my_mod" => k_extra "ln 147"
  trivial

theorem num_item {value slice : PySem.Expr} {l : Addr} {vs : List Value} {ns : List Int} {n : Nat} {k : Int} {u : Tok} {A : Around} {led : List (Addr × Obj)} (N : News h₀ L s.heap led) (hm : (l, listOf vs.toArray n) ∈ led) (hi : IntsAre vs ns)
    (h0 : 0 ≤ k) (h1 : k < (ns.length : Int)) (h2 : k < 2 ^ 63) (h : ∀ t, Q (.int (ns.getD k.toNat 0) t) s)
    (d : subscripted slice false (.ref l) (.int k u) = operate [.ref l, .int k u] (getItem (.ref l) (.int k u)) := by with_unfolding_all rfl) (e : ∀ r, letTemporaryGo value (.ref l) r = pure () := by intro _; with_unfolding_all rfl) :
    wpAny (model prog w) A (subscriptTail value slice (.ref l) (.int k u)) Q E s :=
  item_list_ints (heap_list N hm) hi h0 h1 h2 h d e
theorem ln_LAW_4 : True := by
  k_with "LAW my_rows" => k_extra "ln 15"
  k_with "LAW my_room" => k_extra "ln 16"
  k_with "LAW my_ctx" => k_extra "ln 17"
  k_with "LAW my_ctx0" => k_extra "ln 18"
  k_with "LAW eval ListComp" => k_extra "ln 14"
  k_with "LAW pyIter ref" => k_extra "ln 14"
  k_with "LAW subscriptTail Name Name ref int" => k_extra "ln 105"
  k_with "LAW subscriptTail Name Name ref int" => k_extra "ln 106"
  k_with "LAW subscriptTail Name Name ref int" => k_extra "ln 107"
  k_with "LAW subscriptTail Name Constant ref int" => k_extra "ln 105"
  k_with "LAW subscriptTail Name Constant ref int" => k_extra "ln 106"
  k_with "LAW subscriptTail Name Constant ref int" => k_extra "ln 107"
  k_with "LAW subscriptTail Subscript Name Name Constant ref int" => k_extra "ln 105"
  k_with "LAW subscriptTail Subscript Name Name Constant ref int" => k_extra "ln 106"
  k_with "LAW subscriptTail Subscript Name Name Constant ref int" => k_extra "ln 107"
  k_with "LAW subscriptTail Subscript Name Constant Constant ref int" => k_extra "ln 105"
  k_with "LAW subscriptTail Subscript Name Constant Constant ref int" => k_extra "ln 106"
  k_with "LAW subscriptTail Subscript Name Constant Constant ref int" => k_extra "ln 107"
  k_with "LAW my_reord" => k_extra "ln 7"
  k_with "LAW my_mem" => k_extra "ln 120"
  k_with "LAW my_rows" => k_extra "ln 15"
  k_with "LAW call ref" => k_extra "ln 121"
  k_with "LAW call ref" => k_extra "ln 122"
  k_with "LAW call ref" => k_extra "ln 123"
  k_with "LAW call ref" => k_extra "ln 124"
  k_with "LAW call ref" => k_extra "ln 125"
  k_with "LAW call ref" => k_extra "ln 126"
  k_with "LAW call ref" => k_extra "ln 127"
  k_with "LAW call ref" => k_extra "ln 128"
  k_with "LAW call ref" => k_extra "ln 129"
  k_with "LAW getMethod ref" => k_extra "ln 130"
  k_with "LAW getMethod ref" => k_extra "ln 131"
  k_with "LAW getMethod ref" => k_extra "ln 132"
  k_with "LAW getMethod ref" => k_extra "ln 133"
  k_with "LAW subscriptTail Name Constant ref int" => k_extra "ln 134"
  k_with "LAW my_menu" => k_extra "ln 135"
  k_with "LAW subscriptTail Tuple cons BinOp ref int" => k_extra "ln 136"
  k_with "LAW setItem ref int int" => k_extra "ln 137"
  k_with "LAW compareOp NotEq bool bool" => k_extra "ln 138"
  k_with "LAW call ref" => k_extra "ln 139"
  k_with "LAW call ref" => k_extra "ln 140"
  k_with "LAW call ref" => k_extra "ln 141"
  k_with "LAW my_rlen" => k_extra "ln 117"
  k_with "LAW binaryOp Add ref ref" => k_extra "ln 142"
  k_with "LAW exec If Compare cons nil" => k_extra "ln 143"
  k_with "LAW callWith ref nil nil" => k_extra "ln 144"
  k_with "LAW callWith ref cons nil" => k_extra "ln 145"
  k_with "ln 148" => ((k_here; (with_reducible show wpAny _ _ (call (Value.ref 713) _) _ _ _); refine Stop.out ?_))
  k_with "LAW call ref" => k_extra "ln 148"
  k_with "ln 149" => ((k_here; (with_reducible show wpAny _ _ (call (Value.ref 713) _) _ _ _); k_dflt (refine' lim_ok ?zcB ?zcF ?zcX ?zcN ?zcT ?zchk ?zcdp ?zcun ?z149xa ?z149xb ?z149xc ?z149xd ?z149xe ?z149xf ?_; (walk_at "my_ctx"); (case z149xa => walk_at "my_mod"); (case z149xb => walk_at "my_mod"); (case z149xc => walk_at "my_mod"); (case z149xd => walk_at "my_mod"); (case z149xe => walk_at "my_mod"); (case z149xf => walk_at "my_mod"); k_whole); unfold LimRet; intro h'q tk'q r'q it'q d'q C'q g'q sec'q nm'q n'q t'q W'q u'q ka'q kb'q kc'q ta'q tb'q hK'q hW'q F'q N'q o1'q o2'q o3'q; (try k_lt o1'q); (try k_lt o2'q); (try k_lt o3'q)))
  k_with "LAW call ref" => k_extra "ln 149"
  k_with "ln 150" => ((k_here; (with_reducible show wpAny _ _ (subscriptTail (PySem.Expr.Name (Str.ofString "numbers") _) _ (Value.ref _) (Value.int _ _)) _ _ _); k_dflt (refine' num_item ?z150xN ?z150xm ?z150xi ?z150xa ?z150xb ?z150xc ?_ ?z150xd ?z150xe; (case z150xN => k_asm); (case z150xm => k_mem); (case z150xi => assumption); (case z150xa => decide); (case z150xb => (simp; omega)); (case z150xc => decide); (case z150xd => with_unfolding_all rfl); (case z150xe => (intro _; with_unfolding_all rfl)); k_whole); intro t'q))
  k_with "LAW subscriptTail Name Constant ref int" => k_extra "ln 150"
  k_with "ln 151" => ((k_here; (with_reducible show wpAny _ _ (call (Value.ref 704) _) _ _ _); k_dflt (refine' store_new_ok ?zcB ?zcF ?zcX ?zcN ?zcT ?zchk ?zcdp ?zcun ?_; (walk_at "my_ctx"); k_whole); unfold NewStore; intro h'q tk'q z1'q z2'q z3'q z4'q z5'q o1'q o2'q o3'q ka'q kb'q kc'q kd'q F'q N'q D1'q D2'q D3'q l1'q l2'q l3'q l4'q l5'q; (have l6'q := lt_all l1'q l2'q); (have l7'q := lt_all l6'q l3'q); (have l8'q := lt_all l7'q l4'q); (have l9'q := lt_all l8'q l5'q); (have l10'q := Nat.lt_trans l2'q l3'q); (have l11'q := Nat.lt_trans l10'q l4'q); (have l12'q := Nat.lt_trans l11'q l5'q); (have l13'q := Nat.lt_trans l3'q l4'q); (have l14'q := Nat.lt_trans l13'q l5'q); (have l15'q := Nat.lt_trans l4'q l5'q); (try k_lt l1'q); (try k_lt l6'q); (try k_lt l7'q); (try k_lt l8'q); (try k_lt l9'q)))
  k_with "LAW call ref cons nil" => k_extra "ln 151"
  k_with "ln 152" => ((k_here; (with_reducible show wpAny _ _ (call (Value.ref 202) _) _ _ _); k_dflt (refine' lim_new_m ?zcB ?zcF ?zcX ?zcN ?zcT ?zchk ?zcdp ?zcun ?_; (walk_at "my_ctx"); k_whole); unfold NewLim; intro h'q tk'q g'q d'q ka'q F'q N'q l1'q l2'q; (have l6'q := lt_all l1'q l2'q); (try k_lt l1'q); (try k_lt l6'q)))
  k_with "LAW call ref cons nil" => k_extra "ln 152"
  k_with "ln 153" => ((k_here; (with_reducible show wpAny _ _ (call (Value.ref 241) _) _ _ _); k_dflt (refine' lim_new_f ?zcB ?zcF ?zcX ?zcN ?zcT ?zchk ?zcdp ?zcun ?_; (walk_at "my_ctx"); k_whole); unfold NewLim; intro h'q tk'q g'q d'q ka'q F'q N'q l1'q l2'q; (have l6'q := lt_all l1'q l2'q); (try k_lt l1'q); (try k_lt l6'q)))
  k_with "LAW call ref cons nil" => k_extra "ln 153"
  trivial

theorem len_script {A : Around} {l : Addr} {vs : List Value} {ns : List Int} (H : h₀.IsList l vs.toArray) (F : Fr h₀ L s.heap m) (hi : IntsAre vs ns) (hb : ns.length ≤ 63) (h : ∀ t k, Q (.int (ns.length : Int) t) { s with toks := k }) :
    wpAny (model prog w) A (call (.builtin "len") [.ref l]) Q E s := by
  have e : vs.toArray.size = ns.length := by rw [List.size_toArray, hi.length]
  exact len_list (isl_keep H F) (by rw [e]; omega) (by rw [e]; exact h _ _)
theorem ln_LAW_5 : True := by
  k_with "ln 154" => ((k_here; (with_reducible show wpAny _ _ (call (Value.builtin "len") [Value.ref _]) _ _ _); k_dflt (refine' len_script ?z154xk0 ?z154xk1 ?z154xk2 ?z154xk3 ?_; (case z154xk0 => assumption); (case z154xk1 => k_asm); (case z154xk2 => assumption); (case z154xk3 => omega); k_whole); intro t'q k'q; (try dsimp only)))
  k_with "LAW call builtin:len cons nil" => k_extra "ln 154"
  k_with "ln 155" => ((k_here; (rename Fr _ _ _ _ => lF'q); (with_unfolding_all refine' For_turns lF'q ?_); k_whole))
  k_with "LAW exec For Tuple Call cons nil" => k_extra "ln 155"
  k_with "LAW call type:enumerate cons nil" => k_extra "ln 14"
  k_with "ln 156" => (first | exact List.forall_mem_nil _ | (refine List.forall_mem_cons.mpr ⟨by k_ne, ?_⟩; walk_at "my_offs"))
  k_with "LAW my_offs" => k_extra "ln 156"
  k_with "ln 157" => (first | exact trivial | exact neAll_of (by assumption) | exact neAll_of2 (by assumption) (by assumption) | (refine ⟨Nat.ne_of_lt (by assumption), ?_⟩; walk_at "my_nea"))
  k_with "LAW my_nea" => k_extra "ln 157"
  k_with "ln 158" => (first | exact trivial | (refine ⟨by walk_at "my_nea", ?_⟩; walk_at "my_dist"))
  k_with "LAW my_dist" => k_extra "ln 158"
  k_with "ln 159" => ((
  (repeat (rename @LT.lt Nat _ _ _ ∧ _ => hx'q; clear hx'q));
  (repeat (rename Kind _ _ _ _ => hx'q; clear hx'q));
  (repeat (rename Obj.IsDictOf _ _ _ => hx'q; clear hx'q));
  (repeat (rename IntsAre _ _ => hx'q; clear hx'q));
  (repeat (rename Obj.data _ = Data.cell _ => hx'q; clear hx'q));
  (repeat (rename Obj.data _ = Data.fields _ => hx'q; clear hx'q))))
  k_with "LAW my_clean" => k_extra "ln 159"
  trivial

theorem ne_gt {a b : Addr} (h : b < a) : a ≠ b := Nat.ne_of_gt h
theorem law_end {cl mean} {vs : List Int} {s₁ s' : Shared} {L : Addr} {m : Str → Option Value} (F : Fr s₁.heap L s'.heap m) (hg : s'.gens = #[]) (hos : s'.os = s₁.os := by rfl) :
    GoodW PySem.Challenge.rw_ji0059_01.row.claim cl mean [ofPy (PyData.list (vs.map PyData.int))] s₁ (.ok (.ret (.bool true))) s' :=
  goodW_bool F hg (raisesW_false (by wrow_none_raised)) (by wrow_post) hos
theorem ln_LAW_6 : True := by
  k_with "ln 160" => (refine lp_end (by assumption) (by assumption) (by assumption) (by assumption) ⟨_, _, _, _, _, _, _, _, _, rfl, (by intro p hp; k_mem), Live.unframe (Live.more (by assumption) (by omega)), by assumption, by assumption, ?_, ?_, rfl, rfl, rfl, rfl, rfl, rfl, rfl, rfl, rfl, rfl, rfl, rfl, trivial⟩)
  k_with "LAW my_lpend" => k_extra "ln 160"
  k_with "ln 161" => ((dsimp only; refine turn_end (by assumption) (by assumption) (by assumption) ⟨_, _, _, _, _, _, _, _, _, _, _, _, _, _, ⟨rfl, rfl, rfl, rfl, rfl, rfl, rfl, rfl, trivial⟩, rfl, Live.L (by assumption), Live.S (Live.more (by assumption) (by omega)), by k_mem, by walk_at "my_rows", ?_, by assumption, by assumption, by assumption⟩; (first | omega | (rw [List.length_append]; simp only [List.length_cons, List.length_nil]; omega))))
  k_with "LAW my_turnend" => k_extra "ln 161"
  k_with "ln 162" => (refine lp_end (by assumption) (by assumption) (by assumption) (by assumption) ⟨_, _, _, _, _, _, _, rfl, (by intro p hp; k_mem), Live.unframe (Live.more (by assumption) (by omega)), by assumption, by assumption, rfl, rfl, rfl, rfl, rfl, rfl, rfl, rfl, rfl, trivial⟩)
  k_with "LAW my_lpend2" => k_extra "ln 162"
  trivial

theorem bump_of {led : List (Addr × Obj)} {vs : List Value} {rows : List Row} {W now c t : Int} {fx : Option (Int × Int)} (_hr : RowsAre led vs (rows ++ [(now, c)])) (h : FxOk W rows t fx) (hn : t ≤ now) (hW : 1 ≤ W) : FxOk W (rows ++ [(now, c)]) now (Mine.bump now W c (Mine.live now fx)) := h.bump hn hW
set_option Elab.async true in
set_option maxHeartbeats 0 in
theorem law_holds : PySem.Challenge.rw_ji0059_01.Holds := by
  w_on
  o_law
  o_head (kmHook kd.heap_1 [2, 3, 15, 17, 18, 20, 21, 29, 31, 32, 34, 35, 36, 37, 39, 40, 42, 43, 44, 46, 47, 49, 50, 51, 53, 54, 56, 57, 58, 59, 60, 61, 62, 65, 68, 73, 74, 75, 76, 78, 79, 81, 82, 83, 85, 86, 88, 89, 90, 91, 92, 93, 94, 96, 97, 99, 100, 101, 103, 104, 106, 107, 108, 110, 111, 113, 114, 115, 117, 118, 120, 121, 122, 123, 124, 126, 127, 129, 131, 132, 133, 143, 145, 146, 148, 149, 150, 151, 152, 154, 155, 157, 158, 159, 160, 161, 162, 163, 166, 173, 174, 175, 177, 178, 180, 181, 182, 183, 184, 186, 187, 189, 190, 191, 192, 193, 195, 196, 198, 199, 200, 201, 202, 205, 212, 213, 214, 216, 217, 219, 220, 221, 222, 223, 225, 226, 228, 229, 230, 231, 232, 234, 235, 237, 238, 239, 240, 241, 251, 253, 254, 256, 257, 258, 259, 261, 262, 264, 265, 266, 268, 269, 271, 272, 273, 275, 276, 278, 279, 280, 281, 282, 283, 284, 287, 289, 290, 292, 293, 294, 297, 302, 303, 304, 305, 307, 308, 310, 311, 312, 314, 315, 317, 318, 319, 320, 321, 322, 323, 325, 326, 328, 329, 330, 332, 333, 335, 336, 337, 339, 340, 342, 343, 344, 346, 347, 349, 350, 351, 352, 353, 355, 356, 358, 360, 361, 362, 372, 373, 375, 376, 378, 379, 380, 382, 383, 385, 386, 387, 388, 389, 390, 392, 393, 395, 396, 397, 398, 399, 402, 403, 404, 406, 407, 409, 410, 411, 413, 414, 416, 417, 418, 420, 421, 423, 424, 425, 426, 427, 428, 429, 432, 442, 443, 444, 445, 446, 449, 459, 460, 461, 462, 463, 466, 476, 477, 478, 479, 480, 483, 493, 494, 495, 496, 497, 500, 510, 511, 512, 513, 514, 517, 527, 528, 529, 530, 531, 541, 543, 544, 546, 547, 548, 549, 550, 551, 552, 553, 554, 555, 558, 560, 561, 563, 564, 572, 574, 575, 577, 578, 579, 580, 581, 582, 583, 586, 593, 595, 596, 598, 599, 600, 602, 603, 605, 606, 607, 608, 610, 611, 613, 614, 615, 616, 618, 619, 621, 622, 623, 625, 626, 628, 629, 630, 632, 633, 635, 636, 637, 638, 640, 641, 643, 644, 645, 647, 648, 650, 651, 652, 654, 655, 657, 658, 659, 660, 662, 663, 665, 666, 667, 669, 670, 672, 673, 674, 676, 677, 679, 680, 681, 683, 684, 686, 687, 688, 690, 691, 693, 694, 695, 697, 698, 700, 701, 702, 703, 704, 707, 709, 710, 712, 713, 714, 717, 718, 719, 721, 722, 724, 725, 726, 728, 729, 731, 732, 733, 735, 736, 738, 739, 740, 743, 744, 745, 747, 748, 750, 751] (fun _ => by kernel_rfl) [653, 746])
  case hw => w_witness2
  k_go0
  all_goals try k_fold
  k_steps
  unfold Stop
  rename Fr _ _ _ _ => F1
  rename News _ _ _ _ => N1
  obtain ⟨z, y, led, e1, e2, e3, N2, J0⟩ := law_start F1 N1 (by walk_at "my_dist") (by walk_at "my_offs") (by walk_at "my_ltf") (by walk_at "my_ltf") (by walk_at "my_ltf") rfl (by assumption) (by assumption) (by assumption) (by assumption) (by assumption) (by assumption) (by assumption) (by assumption) (by assumption) (by assumption) (by assumption) (by assumption)
    ⟨by walk_at "my_mod", by walk_at "my_mod"⟩ ⟨by walk_at "my_mod", by walk_at "my_mod"⟩ ⟨by walk_at "my_mod", by walk_at "my_mod"⟩ ⟨by walk_at "my_mod", by walk_at "my_mod"⟩ ⟨by walk_at "my_mod", by walk_at "my_mod"⟩ ⟨by walk_at "my_mod", by walk_at "my_mod"⟩ ⟨by omega, by omega⟩ ⟨rfl, rfl, rfl, rfl, rfl, rfl, rfl, rfl, trivial⟩
  have hlen : y.nvs.length ≤ 11 := by rw [e2, IntsAre.length (by assumption)]; simp; omega
  have hint : ∃ ns, IntsAre y.nvs ns := ⟨_, by rw [e2]; assumption⟩
  subst e1
  refine call_enumJ (LawJ _ _ z y) F1 N2 J0.keep rfl rfl rfl rfl J0 (fun _ _ _ h => h.keep) ?turn ?done
  case done =>
    intro m₁ nx h tk J F N
    clear F1 N1 N2 J0
    walk_at "my_clean"
    rename LawJ _ _ _ _ _ _ _ => J
    rename Fr _ _ _ _ => F
    rename News _ _ _ _ => N
    rename List.length _ ≤ 11 => hlen
    obtain ⟨oSt, oEx, oEv, ps, rest, l, vs, nn, rows, fx, now, tk, n', t0, hm, rfl, HL, S, hl, hr, hb, R, hf, ht⟩ := J
    replace F := Fr.see F _ hm.all
    obtain ⟨oC, hC, dC⟩ := HL.ck.cell
    obtain ⟨q3, h3⟩ := HL.tb
    rename Y.cN _ = _ => ec
    rw [ec] at hC
    have V : Live _ _ _ _ oSt oEx oEv _ ps [] rest _ _ fx _ now := ⟨HL, S, S.ho, fun q hq => nomatch hq⟩
    dsimp only [seen] at F N ⊢
    (repeat' (first | (k_unfold; (try dsimp only)) | walk1 | (dsimp only; walk1)))
    (w_end; (show GoodW _ _ _ _ _ (.ok (.ret (.bool true))) _); exact law_end (by with_reducible assumption) (by with_reducible assumption))
  case turn =>
    intro i v t m₁ nx h tk e I oe oI hI hIe hv J F N o1 o2
    clear F1 N1 N2 J0 hI
    walk_at "my_clean"
    rename LawJ _ _ _ _ _ _ _ => J
    rename Fr _ _ _ _ => F
    rename News _ _ _ _ => N
    rename List.length _ ≤ 11 => hlen
    rename ∃ ns, IntsAre _ ns => hint
    rename Y.nvs _ = _ => e2
    rename Y.cN _ = _ => e3
    rename _[_]? = some _ => hv
    obtain ⟨oSt, oEx, oEv, ps, rest, l, vs, nn, rows, fx, now, tk, n', t0, hm, rfl, HL, S, hl, hr, hb, R, hf, ht⟩ := J
    obtain ⟨ns, hns⟩ := hint
    obtain ⟨x, tx, rfl⟩ := ints_get hns hv
    have hi : _ < 11 := Nat.lt_of_lt_of_le (List.getElem?_eq_some_iff.mp hv).1 hlen
    replace F := Fr.see2 F _ hm.all
    obtain ⟨oC, hC, dC⟩ := HL.ck.cell
    rw [e3] at hC
    have V := Live.start N HL S o1 o2
    have p9 : (0 : Int) < 10 ^ Int.toNat 9 := by decide
    have w0 := HL.w0
    have w1 := HL.w1
    have w2 := HL.w2
    dsimp only [seen] at F N ⊢
    k_steps
    unfold Stop
    rename Fr _ _ _ _ => F1
    rename News _ _ _ _ => N1
    rename Live _ _ _ _ _ _ _ _ _ _ _ _ _ _ _ _ => V1
    rename Y => y
    rename Z => z
    refine join_n F1 N1 V1 ?_ ?_
    · k_steps
      all_goals (refine JoinN.intro ?_ (by assumption) (by assumption) (by assumption); omega)
    clear F1 N1 V1 F N V
    intro h' tk' oSt' oEx' oEv' ps' now1 tk1 n1 hn1 F1 N1 V1
    k_steps
    unfold Stop
    (try clear F1)
    (try clear N1)
    rename Fr _ _ _ _ => F1
    rename News _ _ _ _ => N1
    refine join_c [(Str.ofString "limits", .ref y.tl), (Str.ofString "brief", .int y.W0 y.tb), (Str.ofString "wide", .int y.W1 y.tw), (Str.ofString "frame", .int y.W2 y.tf), (Str.ofString "moving", .ref y.gm), (Str.ofString "gate", .ref y.ga), (Str.ofString "names", .ref y.tn), (Str.ofString "came", .ref l)] F1 N1 ?_ ?_
    · k_steps
      all_goals (refine' JoinC.intro ?zc ?zm ?zf ?zn; (case zf => assumption); (case zm => exact ⟨rfl, rfl, rfl, rfl, rfl, rfl, rfl, rfl, rfl, trivial⟩); (case zn => assumption); (case zc => first | assumption | omega))
    (try clear F1)
    intro h' tk' m2 c tc hc hm2 F1 N2
    replace N2 := cb_drop N2 (fun p hp => .tail _ hp)
    (try clear N1)
    replace F1 := Fr.see F1 _ hm2.all
    dsimp only [seen] at F1
    k_steps
    unfold Stop
    rename IsRange _ _ _ _ _ _ _ _ => R1
    (try clear F1)
    rename Fr _ _ _ _ => F2
    rename News _ _ _ _ => N3
    rename RowsAre (_ :: _) _ _ => hr2
    have V2 := loop_start hr2 V1 (by assumption) N3 (by assumption) (by walk_at "my_reord")
    replace R := R.tick (Int.le_trans (show _ ≤ _ by omega) hn1)
    replace ht : t0 ≤ now1 := by omega
    replace hr2 := loop_rows hr2 N3
    replace N3 := loop_news V2 N3 (by walk_at "my_reord")
    clear V1 o1 o2 hn1
    (repeat (rename @LT.lt Nat _ _ _ ∧ _ => hx'; clear hx'))
    rename IsRange _ _ _ _ _ _ _ _ => R1
    rename Fr _ _ _ _ => F2
    rename News _ _ _ _ => N3
    rename Live _ _ _ _ _ _ _ _ _ _ _ _ _ _ _ _ => V2
    rename RowsAre (_ :: _) _ _ => hr2
    rename RowsOk _ _ _ => R
    rename FxOk _ _ _ _ => hf
    rename Y => y
    rename Z => z
    rename LawIn _ _ _ _ => HL
    rename StoreSt _ _ _ _ _ _ _ _ _ _ _ _ _ _ _ _ _ => S
    rename Has (_ :: _ :: _ :: _ :: _ :: _ :: _ :: _ :: [_]) _ => hm2
    rename (_, listOf (List.toArray _) _) ∈ _ => hl
    rename _ = Data.cell _ => dC
    rename (_ + 1, _) ∈ _ => hC
    rename _ < 11 => hi
    rename (List.length _) ≤ _ => hb
    refine loop_pack V2 hr2 N3 hl (by assumption) hC ?_
    clear V2 hr2 N3 hl hC HL S
    intro rest1 hT hl hr hC V2 hr2 N3
    refine iter_rangeJ (n := 3) (lp1J V2 hr2 [(Str.ofString "trial", .ref _), (Str.ofString "cost", .int _ _), (Str.ofString "limits", .ref y.tl), (Str.ofString "brief", .int y.W0 y.tb), (Str.ofString "wide", .int y.W1 y.tw), (Str.ofString "frame", .int y.W2 y.tf), (Str.ofString "moving", .ref y.gm), (Str.ofString "gate", .ref y.ga), (Str.ofString "names", .ref y.tn), (Str.ofString "came", .ref _)]) rfl R1 rfl (by decide) F2 N3
      ⟨_, _, _, _, rest1, _, _, true, true, rfl, fun _ h => h, V2, hf, by assumption, rfl, rfl, rfl, rfl, rfl, rfl, rfl, rfl, rfl, rfl, rfl, rfl, rfl, rfl, trivial⟩ ?turn1 ?done1
    case done1 =>
      rintro m₁ nx h tk ⟨oSt1, oEx1, oEv1, ps1, rest', fx1, t1, su, kn, rfl, sub, V3, hf1, ht1, hsu, hkn, hm3⟩ F3 N4
      clear F2 N3 R1 V2 hf
      rename Fr _ _ _ _ => F3
      rename News _ _ _ _ => N4
      rename Live _ _ _ _ _ _ _ _ _ _ _ _ _ _ _ _ => V3
      rename RowsAre _ _ (_ ++ _) => hr2
      rename RowsOk _ _ _ => R
      rename FxOk _ _ _ _ => hf1
      rename Y => y
      rename Z => z
      rename Has (_ :: _ :: _ :: _ :: _ :: _ :: _ :: _ :: _ :: _ :: _ :: [_]) _ => hm3
      rename _ = sureB _ _ _ _ => hsu
      rename _ = knownB _ _ _ _ _ => hkn
      rename _ = Data.cell _ => dC
      rename _ < 11 => hi
      rename (List.length _) ≤ _ => hb
      obtain ⟨k1, ga⟩ := V3.L.ga
      obtain ⟨k2, tl⟩ := V3.L.tl
      obtain ⟨k3, u3, v3, h0⟩ := V3.L.h0
      obtain ⟨k4, u4, v4, h1⟩ := V3.L.h1
      obtain ⟨k5, u5, v5, h2⟩ := V3.L.h2
      replace F3 := Fr.see F3 _ hm3.all
      dsimp only [seen] at F3 ⊢
      have hf2 := hf1.live (by assumption)
      have le2 := V3.now_le
      k_steps
      · unfold Stop
        rename Y => y
        rename Z => z
        rename List Row => rows
        rename RowsAre _ _ (_ ++ _) => hr2
        rename RowsOk _ _ _ => R
        rename _ = sureB _ _ _ _ => hsu
        rename _ = knownB _ _ _ _ _ => hkn
        rename _ < 11 => hi
        rename (List.length _) ≤ _ => hb
        rename Live _ _ _ _ _ _ _ _ _ _ _ _ _ _ _ _ => V3
        rename FxOk _ _ _ (Mine.live _ _) => hf2
        rename 1 ≤ Y.W2 _ => w2
        rename IsRange _ _ _ _ _ _ _ _ => R1
        rename Fr _ _ _ _ => F2
        rename News _ _ _ _ => N3
        clear hf2
        rename FxOk _ _ _ _ => hf1
        obtain ⟨f0, f1, f2, g0, g1⟩ := all_yes hsu hkn (by assumption) (by assumption)
        clear hsu hkn
        replace hr2 := hr2.mono (by assumption)
        refine iter_rangeJ (n := 3) (lp2J V3 hr2 [(Str.ofString "trial", .ref _), (Str.ofString "cost", .int _ _), (Str.ofString "limits", .ref y.tl), (Str.ofString "brief", .int y.W0 y.tb), (Str.ofString "wide", .int y.W1 y.tw), (Str.ofString "frame", .int y.W2 y.tf), (Str.ofString "moving", .ref y.gm), (Str.ofString "gate", .ref y.ga), (Str.ofString "names", .ref y.tn)]) rfl R1 rfl (by decide) F2 N3
          ⟨_, _, _, _, _, _, _, rfl, fun _ h => h, V3, hf1, by assumption, rfl, rfl, rfl, rfl, rfl, rfl, rfl, rfl, rfl, trivial⟩ ?turn2 ?done2
        case done2 =>
          rintro m₁ nx h tk ⟨oSt1, oEx1, oEv1, ps1, rest2, fx1, t1, rfl, sub2, V4, hf, ht1, hm3⟩ F3 N4
          replace V4 : Live _ _ _ _ _ _ _ _ _ _ _ (evOf (rows ++ _)) (evOf (rows ++ _)) _ _ _ := V4
          replace hf : FxOk _ (rows ++ _) _ _ := hf
          have R2 := R.snoc (by assumption) f0 f1 f2
          clear R F2 N3 R1 V3 hf1
          replace F3 := Fr.see F3 _ hm3.all
          dsimp only [seen] at F3 ⊢
          k_steps
          walk_at "my_turnend"
        case turn2 =>
          rintro k t m₁ nx h tk own hk hoff ⟨oSt1, oEx1, oEv1, ps1, rest2, fx1, t1, rfl, sub2, V4, hf, ht1, hm3⟩ F3 N4
          delta lp2J
          clear F2 N3 R1 V3 hf1
          have ofr := own_fr hoff
          replace N4 := own_news N4
          replace V4 := V4.frame hoff
          clear hoff
          obtain ⟨ki, hki⟩ : ∃ ki : Int, (k : Int) = ki := ⟨_, rfl⟩
          rw [hki] at F3
          replace F3 := Fr.see1 F3 _ hm3.all
          dsimp only [seen] at F3
          obtain ⟨rfl, rfl⟩ | ⟨rfl, rfl⟩ | ⟨rfl, rfl⟩ : (k = 0 ∧ ki = 0) ∨ (k = 1 ∧ ki = 1) ∨ (k = 2 ∧ ki = 2) := by omega
          all_goals clear hki
          · replace V4 : Live _ _ _ _ _ _ _ _ _ _ _ (evOf rows) (evOf rows) _ _ _ := V4
            replace hf : FxOk _ rows _ _ := hf
            k_steps
            all_goals walk_at "my_lpend2"
          · replace V4 : Live _ _ _ _ _ _ _ _ _ _ _ (evOf (rows ++ _)) (evOf rows) _ _ _ := V4
            replace hf : FxOk _ rows _ _ := hf
            k_steps
            all_goals walk_at "my_lpend2"
          · replace V4 : Live _ _ _ _ _ _ _ _ _ _ _ (evOf (rows ++ _)) (evOf (rows ++ _)) _ _ _ := V4
            replace hf : FxOk _ rows _ _ := hf
            have hf3 := bump_of hr2 hf ht1 w2
            have le2 := V4.now_le
            k_steps
            all_goals walk_at "my_lpend2"
      · walk_at "my_turnend"
      · walk_at "my_turnend"
    case turn1 =>
      rintro k t m₁ nx h tk own hk hoff ⟨oSt1, oEx1, oEv1, ps1, rest', fx1, t1, su, kn, rfl, sub, V3, hf1, ht1, hsu, hkn, hm3⟩ F3 N4
      delta lp1J
      clear F2 N3 R1 V2 hf
      have ofr := own_fr hoff
      replace N4 := own_news N4
      replace V3 := V3.frame hoff
      clear hoff
      obtain ⟨k1, ga⟩ := V3.L.ga
      obtain ⟨k2, tl⟩ := V3.L.tl
      obtain ⟨k3, u3, v3, h0⟩ := V3.L.h0
      obtain ⟨k4, u4, v4, h1⟩ := V3.L.h1
      obtain ⟨k5, u5, v5, h2⟩ := V3.L.h2
      replace F3 := Fr.see1 F3 _ hm3.all
      dsimp only [seen] at F3
      obtain ⟨ki, hki⟩ : ∃ ki : Int, (k : Int) = ki := ⟨_, rfl⟩
      rw [hki] at F3
      obtain ⟨rfl, rfl⟩ | ⟨rfl, rfl⟩ | ⟨rfl, rfl⟩ : (k = 0 ∧ ki = 0) ∨ (k = 1 ∧ ki = 1) ∨ (k = 2 ∧ ki = 2) := by omega
      all_goals clear hki
      · k_steps
        all_goals walk_at "my_lpend"
        all_goals first | exact s0t (by assumption) (by assumption) | exact s0f (by assumption) | exact n0n (by assumption) (by assumption) | exact n0t (by assumption) (by assumption) (by assumption) | exact n0f (by assumption) (by assumption)
      · k_steps
        all_goals walk_at "my_lpend"
        all_goals first | exact s1t (by assumption) (by assumption) | exact s1f (by assumption) | exact n1n (by assumption) (by assumption) | exact n1t (by assumption) (by assumption) (by assumption) | exact n1f (by assumption) (by assumption)
      · have hf2 := hf1.live ht1
        have le2 := V3.now_le
        k_steps
        all_goals walk_at "my_lpend"
        all_goals first | exact s2t (by assumption) (by assumption) | exact s2f (by assumption) | exact n2n (by assumption)
end
end
end Mine
theorem PySem.Challenge.cw_ji0059_01_holds : PySem.Challenge.rw_ji0059_01.Holds := by
  exact Mine.law_holds
