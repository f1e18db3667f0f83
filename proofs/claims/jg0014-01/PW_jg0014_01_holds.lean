import PyProof.Rows.All
import Wide.All
import OpenK.AllK
import Wide.FinOn
import Lean
import PySem.Challenge.RW_jg0014_01
open PySem PySem.W PyProof.Rows
set_option Elab.async false
set_option maxRecDepth 100000

-- PL0
section
namespace Mine
/-- the common multiple that quota reckons -/
def prodl (l : List Int) : Int := l.foldl (fun c r => c * (r + 1)) 1
/-- a party's quotient, times the common multiple -/
def qv (ns rs : List Int) (i : Nat) : Int := (ns.getD i 0 * prodl rs).fdiv (rs.getD i 0 + 1)
/-- its share of the next house, rounded up -/
def upq (ns rs : List Int) (p : Int) : Int := -((-p * (rs.sum + 1)).fdiv ns.sum)
/-- its quotient, nought where it may have no more -/
def qq (ns rs : List Int) (i : Nat) : Int := if upq ns rs (ns.getD i 0) ≤ rs.getD i 0 then 0 else qv ns rs i
def isTop (ns rs : List Int) (i : Nat) : Bool := (List.range ns.length).all fun j => decide (qq ns rs j ≤ qq ns rs i)
def pick (ns rs : List Int) : Nat := ((List.range ns.length).find? (isTop ns rs)).getD 0
def step (ns rs : List Int) : List Int := rs.set (pick ns rs) (rs.getD (pick ns rs) 0 + 1)
def traj (ns : List Int) : Nat → List Int
  | 0 => List.replicate ns.length 0
  | k + 1 => step ns (traj ns k)
/-- what holds between the turns of quota's while -/
def RS (ns : List Int) (house : Int) (rs : List Int) : Prop :=
  rs.length = ns.length ∧ (∀ r ∈ rs, 0 ≤ r ∧ r ≤ 7) ∧ 0 ≤ rs.sum ∧ rs.sum ≤ house ∧ rs = traj ns rs.sum.toNat

theorem getD_bnd {rs : List Int} (h : ∀ r ∈ rs, 0 ≤ r ∧ r ≤ 7) (k : Nat) : 0 ≤ rs.getD k 0 ∧ rs.getD k 0 ≤ 7 := by
  rw [List.getD_eq_getElem?_getD]
  cases e : rs[k]? with
  | none => simp
  | some r => exact h r (List.mem_of_getElem? e)
theorem getD_map_range (n : Nat) (f : Nat → Int) (k : Nat) (hk : k < n) : ((List.range n).map f).getD k 0 = f k := by
  rw [List.getD_eq_getElem?_getD]; simp [hk]
theorem getD_map {ns : List Int} (f : Int → Int) (k : Nat) (hk : k < ns.length) : (ns.map f).getD k 0 = f (ns.getD k 0) := by
  rw [List.getD_eq_getElem?_getD, List.getD_eq_getElem?_getD]; simp [hk]
theorem sum_set : ∀ (rs : List Int) (j : Nat), j < rs.length → (rs.set j (rs.getD j 0 + 1)).sum = rs.sum + 1
  | [], _, h => absurd h (Nat.not_lt_zero _)
  | r :: l, 0, _ => by simp; omega
  | r :: l, j + 1, h => by
    have := sum_set l j (by simpa using h)
    simp only [List.set_cons_succ, List.sum_cons, List.getD_cons_succ, this]; omega
theorem mem_le_sum : ∀ (rs : List Int), (∀ r ∈ rs, 0 ≤ r) → ∀ r ∈ rs, r ≤ rs.sum
  | [], _, _, h => nomatch h
  | a :: l, h, r, hr => by
    have h0 : 0 ≤ l.sum := by
      clear hr
      have : ∀ l : List Int, (∀ r ∈ l, 0 ≤ r) → 0 ≤ l.sum := by
        intro l
        induction l with
        | nil => simp
        | cons b l ih => intro h; have := ih fun x hx => h x (.tail _ hx); have := h b (.head _); simp only [List.sum_cons]; omega
      exact this l fun x hx => h x (.tail _ hx)
    simp only [List.sum_cons]
    rcases List.mem_cons.mp hr with rfl | hr
    · omega
    · have := mem_le_sum l (fun x hx => h x (.tail _ hx)) r hr
      have := h a (.head _)
      omega
theorem filt_fold (p : Int → Bool) : ∀ (l acc : List Int), l.foldl (fun l k => if p k = true then l ++ [k] else l) acc = acc ++ l.filter p
  | [], acc => by simp
  | a :: l, acc => by
    rw [List.foldl_cons, filt_fold p l]
    by_cases h : p a = true <;> simp [h]
/-- the first of those at the greatest -/
theorem pick_of {ns rs : List Int} {M : Int} (h1 : M ∈ (List.range ns.length).map (qq ns rs)) (h2 : ∀ a ∈ (List.range ns.length).map (qq ns rs), a ≤ M) :
    pick ns rs < ns.length ∧ qq ns rs (pick ns rs) = M ∧ ∃ t, (List.range ns.length).filter (fun k => decide (qq ns rs k = M)) = pick ns rs :: t := by
  have e : ∀ i ∈ List.range ns.length, isTop ns rs i = decide (qq ns rs i = M) := by
    intro i hi
    have hi' := h2 _ (List.mem_map_of_mem hi)
    obtain ⟨j, hj, hM⟩ := List.mem_map.mp h1
    rw [Bool.eq_iff_iff]
    simp only [isTop, List.all_eq_true, decide_eq_true_eq]
    constructor
    · intro h; have := h j hj; omega
    · intro h k hk; have := h2 _ (List.mem_map_of_mem hk); omega
  have ef : (List.range ns.length).find? (isTop ns rs) = ((List.range ns.length).filter (fun k => decide (qq ns rs k = M))).head? := by
    rw [List.head?_filter]
    have : ∀ l : List Nat, (∀ i ∈ l, isTop ns rs i = decide (qq ns rs i = M)) → l.find? (isTop ns rs) = l.find? (fun k => decide (qq ns rs k = M)) := by
      intro l
      induction l with
      | nil => intro _; rfl
      | cons a l ih => intro h; rw [List.find?_cons, List.find?_cons, h a (.head _), ih fun x hx => h x (.tail _ hx)]
    exact this _ e
  obtain ⟨j, hj, hM⟩ := List.mem_map.mp h1
  have hne : (List.range ns.length).filter (fun k => decide (qq ns rs k = M)) ≠ [] := by
    intro h
    have : j ∈ (List.range ns.length).filter (fun k => decide (qq ns rs k = M)) := by rw [List.mem_filter]; exact ⟨hj, by simpa using hM⟩
    rw [h] at this; cases this
  obtain ⟨a, t, ht⟩ := List.exists_cons_of_ne_nil hne
  have hp : pick ns rs = a := by rw [pick, ef, ht]; rfl
  have ha : a ∈ (List.range ns.length).filter (fun k => decide (qq ns rs k = M)) := by rw [ht]; exact .head _
  rw [List.mem_filter] at ha
  rw [hp]
  exact ⟨List.mem_range.mp ha.1, by simpa using ha.2, t, ht⟩
theorem RS_step {ns rs : List Int} {house : Int} (h : RS ns house rs) (hlt : rs.sum < house) (h7 : house ≤ 7) (hp : pick ns rs < ns.length) :
    RS ns house (rs.set (pick ns rs) (rs.getD (pick ns rs) 0 + 1)) ∧ (rs.set (pick ns rs) (rs.getD (pick ns rs) 0 + 1)).sum = rs.sum + 1 := by
  obtain ⟨hl, hb, h0, hh, ht⟩ := h
  have hs := sum_set rs (pick ns rs) (by omega)
  have hnn : ∀ r ∈ rs.set (pick ns rs) (rs.getD (pick ns rs) 0 + 1), 0 ≤ r := by
    intro r hr
    rcases List.mem_or_eq_of_mem_set hr with h | h
    · exact (hb r h).1
    · have := (getD_bnd hb (pick ns rs)).1; omega
  refine ⟨⟨by rw [List.length_set]; exact hl, fun r hr => ⟨hnn r hr, ?_⟩, by omega, by omega, ?_⟩, hs⟩
  · have := mem_le_sum _ hnn r hr; omega
  · rw [hs, show (rs.sum + 1).toNat = rs.sum.toNat + 1 by omega, traj, ← ht, step]
theorem sum_replicate0 (n : Nat) : (List.replicate n (0 : Int)).sum = 0 := by
  induction n with
  | zero => rfl
  | succ n ih => rw [List.replicate_succ, List.sum_cons, ih]; rfl
theorem RS_start (ns : List Int) {house : Int} (h : 0 ≤ house) : RS ns house (List.replicate ns.length 0) := by
  refine ⟨List.length_replicate, fun r hr => ?_, ?_, ?_, ?_⟩
  · rw [List.eq_of_mem_replicate hr]; decide
  · rw [sum_replicate0]; decide
  · rw [sum_replicate0]; exact h
  · rw [sum_replicate0]; rfl
end Mine
end

-- PL1
section
namespace Mine
/-! The plain law: Balinski and Young's theorem of the quota method. -/
def S (f : Nat → Int) : Nat → Int
  | 0 => 0
  | n + 1 => f 0 + S (fun i => f (i + 1)) n
theorem sum_S : ∀ l : List Int, l.sum = S (fun i => l.getD i 0) l.length
  | [] => rfl
  | a :: l => by
    rw [List.sum_cons, sum_S l]; rfl
theorem S_le : ∀ (n : Nat) (f g : Nat → Int), (∀ i, i < n → f i ≤ g i) → S f n ≤ S g n
  | 0, _, _, _ => Int.le_refl _
  | n + 1, f, g, h => by
    have h1 := h 0 (by omega)
    have h2 := S_le n (fun i => f (i + 1)) (fun i => g (i + 1)) fun i hi => h (i + 1) (by omega)
    simp only [S]; omega
theorem S_lt : ∀ (n : Nat) (f g : Nat → Int) (s : Nat) (d : Int), s < n → (∀ i, i < n → f i ≤ g i) → f s + d ≤ g s → S f n + d ≤ S g n
  | 0, _, _, _, _, hs, _, _ => absurd hs (Nat.not_lt_zero _)
  | n + 1, f, g, 0, d, _, h, hd => by
    have h2 := S_le n (fun i => f (i + 1)) (fun i => g (i + 1)) fun i hi => h (i + 1) (by omega)
    simp only [S]; omega
  | n + 1, f, g, s + 1, d, hs, h, hd => by
    have h1 := h 0 (by omega)
    have h2 := S_lt n (fun i => f (i + 1)) (fun i => g (i + 1)) s d (by omega) (fun i hi => h (i + 1) (by omega)) hd
    simp only [S]; omega
theorem S_mul (c : Int) : ∀ (n : Nat) (f : Nat → Int), S (fun i => f i * c) n = S f n * c
  | 0, _ => by simp [S]
  | n + 1, f => by
    have := S_mul c n (fun i => f (i + 1))
    simp only [S, this, Int.add_mul]
theorem S_sub : ∀ (n : Nat) (f g : Nat → Int), S (fun i => f i - g i) n = S f n - S g n
  | 0, _, _ => by simp [S]
  | n + 1, f, g => by
    have := S_sub n (fun i => f (i + 1)) (fun i => g (i + 1))
    simp only [S, this]; omega
/-- seats b over votes v: the two sides of a sum, term by term -/
theorem sums_clash {v a c : List Int} {n s : Nat} {k V : Int} (hv : v.length = n) (ha : a.length = n) (hc : c.length = n) (hV : v.sum = V) (hs : s < n)
    (h : ∀ i, i < n → (a.getD i 0 - c.getD i 0) * V ≤ v.getD i 0 * k) {d : Int} (h2 : (a.getD s 0 - c.getD s 0) * V + d ≤ v.getD s 0 * k) : (a.sum - c.sum) * V + d ≤ V * k := by
  have h3 := S_lt n (fun i => (a.getD i 0 - c.getD i 0) * V) (fun i => v.getD i 0 * k) s d hs h h2
  rw [S_mul V n (fun i => a.getD i 0 - c.getD i 0), S_sub n (fun i => a.getD i 0) (fun i => c.getD i 0), S_mul k n (fun i => v.getD i 0)] at h3
  have e1 := sum_S v
  have e2 := sum_S a
  have e3 := sum_S c
  rw [hv] at e1; rw [ha] at e2; rw [hc] at e3
  rw [← e1, ← e2, ← e3, hV] at h3
  exact h3
theorem exists_max : ∀ (l : List Int), l ≠ [] → ∃ M, M ∈ l ∧ ∀ a ∈ l, a ≤ M
  | [], h => absurd rfl h
  | [a], _ => ⟨a, .head _, fun b hb => by rw [List.mem_singleton.mp hb]; exact Int.le_refl _⟩
  | a :: b :: l, _ => by
    obtain ⟨M, h1, h2⟩ := exists_max (b :: l) (by simp)
    by_cases h : a ≤ M
    · refine ⟨M, .tail _ h1, fun x hx => ?_⟩
      rcases List.mem_cons.mp hx with rfl | hx
      · exact h
      · exact h2 x hx
    · refine ⟨a, .head _, fun x hx => ?_⟩
      rcases List.mem_cons.mp hx with rfl | hx
      · exact Int.le_refl _
      · have := h2 x hx; omega
/-- prodl is at least one, and every seat's number and one divides it -/
theorem foldl_pos : ∀ (l : List Int) (c : Int), 1 ≤ c → (∀ r ∈ l, 0 ≤ r) → 1 ≤ l.foldl (fun c r => c * (r + 1)) c
  | [], c, hc, _ => hc
  | r :: l, c, hc, h => by
    have hr := h r (.head _)
    have h1 : 1 ≤ c * (r + 1) := by
      have : 1 * 1 ≤ c * (r + 1) := Int.mul_le_mul hc (by omega) (by decide) (by omega)
      omega
    exact foldl_pos l _ h1 fun x hx => h x (.tail _ hx)
theorem foldl_dvd_start : ∀ (l : List Int) (c d : Int), d ∣ c → d ∣ l.foldl (fun c r => c * (r + 1)) c
  | [], _, _, h => h
  | _ :: l, _, _, h => foldl_dvd_start l _ _ (Int.dvd_trans h (Int.dvd_mul_right _ _))
theorem foldl_dvd : ∀ (l : List Int) (c : Int) (r : Int), r ∈ l → (r + 1) ∣ l.foldl (fun c r => c * (r + 1)) c
  | [], _, _, h => nomatch h
  | a :: l, c, r, h => by
    rcases List.mem_cons.mp h with rfl | h
    · exact foldl_dvd_start l _ _ (Int.dvd_mul_left _ _)
    · exact foldl_dvd l _ r h
theorem getD_mem {l : List Int} {i : Nat} (h : i < l.length) : l.getD i 0 ∈ l := by
  rw [List.getD_eq_getElem?_getD, List.getElem?_eq_getElem h]; exact List.getElem_mem h
/-- what a turn of quota does -/
structure StepSpec (ns rs : List Int) (h : Int) (j : Nat) : Prop where
  lt : j < ns.length
  elig : rs.getD j 0 * ns.sum < ns.getD j 0 * (h + 1)
  best : ∀ i, i < ns.length → rs.getD i 0 * ns.sum < ns.getD i 0 * (h + 1) → ns.getD i 0 * (rs.getD j 0 + 1) ≤ ns.getD j 0 * (rs.getD i 0 + 1)
theorem upq_le {ns rs : List Int} {h p r : Int} (hpos : 0 < ns.sum) (hs : rs.sum = h) : upq ns rs p ≤ r ↔ p * (h + 1) ≤ r * ns.sum := by
  rw [upq, Int.fdiv_eq_ediv_of_nonneg _ (by omega), hs]
  have h1 := Int.le_ediv_iff_mul_le (a := -r) (b := -p * (h + 1)) hpos
  have e1 : -r * ns.sum = -(r * ns.sum) := Int.neg_mul _ _
  have e2 : -p * (h + 1) = -(p * (h + 1)) := Int.neg_mul _ _
  rw [e2] at h1 ⊢
  rw [e1] at h1
  constructor
  · intro h2; have := h1.mp (by omega); omega
  · intro h2; have := h1.mpr (by omega); omega
theorem step_spec {ns rs : List Int} {h : Int} (hnn : ∀ n ∈ ns, 0 ≤ n) (hpos : 0 < ns.sum) (hl : rs.length = ns.length) (hr : ∀ r ∈ rs, 0 ≤ r) (hs : rs.sum = h) (h0 : 0 ≤ h) : StepSpec ns rs h (pick ns rs) := by
  have hP := foldl_pos rs 1 (by decide) hr
  have hd : ∀ i, i < ns.length → qv ns rs i * (rs.getD i 0 + 1) = ns.getD i 0 * prodl rs := by
    intro i hi
    have h1 := hr _ (getD_mem (l := rs) (i := i) (by omega))
    rw [qv, Int.fdiv_eq_ediv_of_nonneg _ (by omega)]
    exact Int.ediv_mul_cancel (Int.dvd_trans (foldl_dvd rs 1 _ (getD_mem (by omega))) (Int.dvd_mul_left _ _))
  have hvp : ∀ i, i < ns.length → rs.getD i 0 * ns.sum < ns.getD i 0 * (h + 1) → 0 < ns.getD i 0 := by
    intro i hi he
    have h1 := hr _ (getD_mem (l := rs) (i := i) (by omega))
    have h2 := hnn _ (getD_mem hi)
    have h3 : 0 ≤ rs.getD i 0 * ns.sum := Int.mul_nonneg h1 (by omega)
    rcases Int.lt_or_eq_of_le h2 with h4 | h4
    · exact h4
    · rw [← h4, Int.zero_mul] at he; omega
  have hqe : ∀ i, rs.getD i 0 * ns.sum < ns.getD i 0 * (h + 1) → qq ns rs i = qv ns rs i := by
    intro i he
    rw [qq, if_neg]
    intro h1
    have := (upq_le hpos hs).mp h1
    omega
  have hqp : ∀ i, i < ns.length → rs.getD i 0 * ns.sum < ns.getD i 0 * (h + 1) → 0 < qv ns rs i := by
    intro i hi he
    have h1 := hr _ (getD_mem (l := rs) (i := i) (by omega))
    have h2 := hvp i hi he
    have h3 : 0 < ns.getD i 0 * prodl rs := Int.mul_pos h2 (by exact hP)
    rw [← hd i hi] at h3
    exact Int.pos_of_mul_pos_left h3 (by omega)
  have hex : ∃ i, i < ns.length ∧ rs.getD i 0 * ns.sum < ns.getD i 0 * (h + 1) := by
    refine Classical.byContradiction fun hno => ?_
    have hall : ∀ i, i < ns.length → ns.getD i 0 * (h + 1) ≤ rs.getD i 0 * ns.sum := by
      intro i hi
      refine Int.not_lt.mp fun h1 => hno ⟨i, hi, h1⟩
    have h1 := S_le ns.length (fun i => ns.getD i 0 * (h + 1)) (fun i => rs.getD i 0 * ns.sum) hall
    rw [S_mul (h + 1) ns.length (fun i => ns.getD i 0), S_mul ns.sum ns.length (fun i => rs.getD i 0), ← sum_S ns] at h1
    have e2 := sum_S rs
    rw [hl] at e2
    rw [← e2, hs, Int.mul_add, Int.mul_one, Int.mul_comm h] at h1
    omega
  obtain ⟨i0, hi0, he0⟩ := hex
  obtain ⟨M, hM1, hM2⟩ := exists_max ((List.range ns.length).map (qq ns rs)) (by
    intro h1
    have := congrArg List.length h1
    rw [List.length_map, List.length_range] at this
    simp only [List.length_nil] at this
    omega)
  obtain ⟨hp, hpM, _⟩ := pick_of hM1 hM2
  have hle : ∀ i, i < ns.length → qq ns rs i ≤ qq ns rs (pick ns rs) := fun i hi => by
    rw [hpM]; exact hM2 _ (List.mem_map_of_mem (List.mem_range.mpr hi))
  have hpe : rs.getD (pick ns rs) 0 * ns.sum < ns.getD (pick ns rs) 0 * (h + 1) := by
    refine Int.not_le.mp fun h1 => ?_
    have h2 : qq ns rs (pick ns rs) = 0 := by rw [qq, if_pos ((upq_le hpos hs).mpr h1)]
    have h3 := hle i0 hi0
    rw [h2, hqe i0 he0] at h3
    have := hqp i0 hi0 he0
    omega
  refine ⟨hp, hpe, fun i hi he => ?_⟩
  have h1 := hle i hi
  rw [hqe i he, hqe _ hpe] at h1
  have r1 := hr _ (getD_mem (l := rs) (i := i) (by omega))
  have r2 := hr _ (getD_mem (l := rs) (i := pick ns rs) (by omega))
  have h2 : qv ns rs i * ((rs.getD i 0 + 1) * (rs.getD (pick ns rs) 0 + 1)) ≤ qv ns rs (pick ns rs) * ((rs.getD i 0 + 1) * (rs.getD (pick ns rs) 0 + 1)) :=
    Int.mul_le_mul_of_nonneg_right h1 (Int.mul_nonneg (by omega) (by omega))
  have e1 : qv ns rs i * ((rs.getD i 0 + 1) * (rs.getD (pick ns rs) 0 + 1)) = ns.getD i 0 * (rs.getD (pick ns rs) 0 + 1) * prodl rs := by
    rw [← Int.mul_assoc, hd i hi, Int.mul_assoc, Int.mul_comm (prodl rs), ← Int.mul_assoc]
  have e2 : qv ns rs (pick ns rs) * ((rs.getD i 0 + 1) * (rs.getD (pick ns rs) 0 + 1)) = ns.getD (pick ns rs) 0 * (rs.getD i 0 + 1) * prodl rs := by
    rw [Int.mul_comm (rs.getD i 0 + 1), ← Int.mul_assoc, hd _ hp, Int.mul_assoc, Int.mul_comm (prodl rs), ← Int.mul_assoc]
  rw [e1, e2] at h2
  exact Int.le_of_mul_le_mul_right h2 hP
end Mine
end

-- PL2
section
namespace Mine
/-- whether a party's seats keep quota, as within_quota reckons it -/
def okq (ns ms : List Int) (k : Nat) : Bool := decide (ms.getD k 0 ≤ -((-(ns.getD k 0) * ms.sum).fdiv ns.sum)) && decide ((ns.getD k 0 * ms.sum).fdiv ns.sum ≤ ms.getD k 0)
/-- how far a party's seats are from its share, times all votes -/
def offv (ns ms : List Int) (k : Nat) : Int := if ms.getD k 0 * ns.sum - ns.getD k 0 * 7 < 0 then -(ms.getD k 0 * ns.sum - ns.getD k 0 * 7) else ms.getD k 0 * ns.sum - ns.getD k 0 * 7
theorem okq_iff {ns ms : List Int} (hpos : 0 < ns.sum) (h7 : ms.sum = 7) (k : Nat) : okq ns ms k = true ↔ offv ns ms k < ns.sum := by
  have hV : 0 ≤ ns.sum := by omega
  have e1 : ms.getD k 0 ≤ -((-(ns.getD k 0) * ms.sum).fdiv ns.sum) ↔ ms.getD k 0 * ns.sum - ns.getD k 0 * 7 < ns.sum := by
    rw [Int.fdiv_eq_ediv_of_nonneg _ hV, h7]
    have h := Int.ediv_lt_iff_lt_mul (a := -(ns.getD k 0) * 7) (b := -(ms.getD k 0) + 1) hpos
    have e : (-(ms.getD k 0) + 1) * ns.sum = ns.sum - ms.getD k 0 * ns.sum := by rw [Int.add_mul, Int.neg_mul]; omega
    rw [e] at h
    constructor
    · intro h1; have := h.mp (by omega); omega
    · intro h1; have := h.mpr (by omega); omega
  have e2 : (ns.getD k 0 * ms.sum).fdiv ns.sum ≤ ms.getD k 0 ↔ -(ms.getD k 0 * ns.sum - ns.getD k 0 * 7) < ns.sum := by
    rw [Int.fdiv_eq_ediv_of_nonneg _ hV, h7]
    have h := Int.ediv_lt_iff_lt_mul (a := ns.getD k 0 * 7) (b := ms.getD k 0 + 1) hpos
    have e : (ms.getD k 0 + 1) * ns.sum = ns.sum + ms.getD k 0 * ns.sum := by rw [Int.add_mul]; omega
    rw [e] at h
    constructor
    · intro h1; have := h.mp (by omega); omega
    · intro h1; have := h.mpr (by omega); omega
  rw [okq, Bool.and_eq_true, decide_eq_true_eq, decide_eq_true_eq, e1, e2, offv]
  split <;> omega
theorem within_max {ns ms L : List Int} {M : Int} (hpos : 0 < ns.sum) (h7 : ms.sum = 7) (e : (List.range ns.length).map (offv ns ms) = L) (h1 : M ∈ L) (h2 : ∀ a, a ∈ L → a ≤ M) :
    (List.range ns.length).all (okq ns ms) = decide (M < ns.sum) := by
  subst e
  rw [Bool.eq_iff_iff, List.all_eq_true, decide_eq_true_eq]
  constructor
  · intro h
    obtain ⟨k, hk, rfl⟩ := List.mem_map.mp h1
    exact (okq_iff hpos h7 k).mp (h k hk)
  · intro h k hk
    have := h2 _ (List.mem_map_of_mem hk)
    exact (okq_iff hpos h7 k).mpr (by omega)
theorem sum_setv : ∀ (rs : List Int) (j : Nat) (v : Int), j < rs.length → (rs.set j v).sum = rs.sum - rs.getD j 0 + v
  | [], _, _, h => absurd h (Nat.not_lt_zero _)
  | r :: l, 0, v, _ => by simp; omega
  | r :: l, j + 1, v, h => by
    have := sum_setv l j v (by simpa using h)
    simp only [List.set_cons_succ, List.sum_cons, List.getD_cons_succ, this]; omega
theorem getD_set (rs : List Int) (j k : Nat) (v : Int) (h : j < rs.length) : (rs.set j v).getD k 0 = if k = j then v else rs.getD k 0 := by
  rw [List.getD_eq_getElem?_getD, List.getD_eq_getElem?_getD, List.getElem?_set]
  by_cases e : j = k
  · subst e; simp [h]
  · rw [if_neg e, if_neg (fun x => e x.symm)]
theorem mv_facts {T : List Int} {n i j : Nat} (hl : T.length = n) (hs : T.sum = 7) (hb : ∀ k, k < n → 0 ≤ T.getD k 0 ∧ T.getD k 0 ≤ 7) (hi : i < n) (hj : j < n) {ms : List Int}
    (e : (T.set i (T.getD i 0 + 1)).set j ((T.set i (T.getD i 0 + 1)).getD j 0 - 1) = ms) : ms.length = n ∧ ms.sum = 7 ∧ ∀ k, k < n → -1 ≤ ms.getD k 0 ∧ ms.getD k 0 ≤ 8 := by
  subst e
  refine ⟨by rw [List.length_set, List.length_set]; exact hl, ?_, fun k hk => ?_⟩
  · rw [sum_setv _ _ _ (by rw [List.length_set]; omega), sum_set _ _ (by omega)]; omega
  · rw [getD_set _ _ _ _ (by rw [List.length_set]; omega), getD_set _ _ _ _ (by omega), getD_set _ _ _ _ (by omega)]
    have h1 := hb k hk
    have h2 := hb i hi
    have h3 := hb j hj
    split
    · split <;> omega
    · split <;> omega
end Mine
end

-- PL3
section
namespace Mine
theorem getD_set1 (rs : List Int) (j i : Nat) (v : Int) (h : j < rs.length) : (rs.set j v).getD i 0 = if i = j then v else rs.getD i 0 := by
  rw [List.getD_eq_getElem?_getD, List.getD_eq_getElem?_getD, List.getElem?_set]
  by_cases e : j = i
  · subst e; simp [h]
  · rw [if_neg e, if_neg (fun x => e x.symm)]
theorem v_nn {ns : List Int} (hnn : ∀ n ∈ ns, 0 ≤ n) (i : Nat) : 0 ≤ ns.getD i 0 := by
  by_cases hi : i < ns.length
  · exact hnn _ (getD_mem hi)
  · rw [List.getD_eq_getElem?_getD, List.getElem?_eq_none (by omega)]; exact Int.le_refl _
theorem first_bad (P : Nat → Prop) : ∀ H, P H → P 0 ∨ ∃ t, t < H ∧ ¬ P t ∧ P (t + 1)
  | 0, h => .inl h
  | H + 1, h => by
    by_cases h1 : P H
    · rcases first_bad P H h1 with h2 | ⟨t, h2, h3⟩
      · exact .inl h2
      · exact .inr ⟨t, by omega, h3⟩
    · exact .inr ⟨H, by omega, h1, h⟩
section
variable {ns : List Int} (hnn : ∀ n ∈ ns, 0 ≤ n) (hpos : 0 < ns.sum)
include hnn hpos
theorem traj_base (h : Nat) : (traj ns h).length = ns.length ∧ (∀ r ∈ traj ns h, 0 ≤ r) ∧ (traj ns h).sum = (h : Int) ∧ StepSpec ns (traj ns h) h (pick ns (traj ns h)) := by
  induction h with
  | zero =>
    have hl : (traj ns 0).length = ns.length := List.length_replicate
    have hr : ∀ r ∈ traj ns 0, 0 ≤ r := fun r hr => by rw [List.eq_of_mem_replicate hr]; exact Int.le_refl _
    have hs : (traj ns 0).sum = 0 := sum_replicate0 _
    exact ⟨hl, hr, hs, step_spec hnn hpos hl hr hs (Int.le_refl _)⟩
  | succ h ih =>
    obtain ⟨hl, hr, hs, sp⟩ := ih
    have hl' : (traj ns (h + 1)).length = ns.length := by rw [traj, step, List.length_set]; exact hl
    have hr' : ∀ r ∈ traj ns (h + 1), 0 ≤ r := by
      intro r hm
      rw [traj, step] at hm
      rcases List.mem_or_eq_of_mem_set hm with h1 | h1
      · exact hr r h1
      · have := hr _ (getD_mem (l := traj ns h) (i := pick ns (traj ns h)) (by rw [hl]; exact sp.lt))
        omega
    have hs' : (traj ns (h + 1)).sum = ((h + 1 : Nat) : Int) := by
      rw [traj, step, sum_set _ _ (by rw [hl]; exact sp.lt), hs]; omega
    exact ⟨hl', hr', hs', step_spec hnn hpos hl' hr' hs' (by omega)⟩
theorem traj_succ (h i : Nat) : (traj ns (h + 1)).getD i 0 = if i = pick ns (traj ns h) then (traj ns h).getD i 0 + 1 else (traj ns h).getD i 0 := by
  obtain ⟨hl, _, _, sp⟩ := traj_base hnn hpos h
  rw [traj, step, getD_set1 _ _ _ _ (by rw [hl]; exact sp.lt)]
  by_cases e : i = pick ns (traj ns h)
  · rw [if_pos e, if_pos e, e]
  · rw [if_neg e, if_neg e]
theorem traj_nn (h i : Nat) : 0 ≤ (traj ns h).getD i 0 := by
  obtain ⟨_, hr, _, _⟩ := traj_base hnn hpos h
  by_cases hi : i < (traj ns h).length
  · exact hr _ (getD_mem hi)
  · rw [List.getD_eq_getElem?_getD, List.getElem?_eq_none (by omega)]; exact Int.le_refl _
theorem traj_mono1 (h i : Nat) : (traj ns h).getD i 0 ≤ (traj ns (h + 1)).getD i 0 := by
  rw [traj_succ hnn hpos h i]; split <;> omega
theorem traj_mono (h i : Nat) : ∀ d, (traj ns h).getD i 0 ≤ (traj ns (h + d)).getD i 0
  | 0 => Int.le_refl _
  | d + 1 => Int.le_trans (traj_mono h i d) (traj_mono1 hnn hpos (h + d) i)
theorem traj_upper (h i : Nat) : (traj ns h).getD i 0 * ns.sum - ns.getD i 0 * (h : Int) < ns.sum := by
  induction h with
  | zero =>
    have e : (traj ns 0).getD i 0 = 0 := by
      rw [traj, List.getD_eq_getElem?_getD, List.getElem?_replicate]; split <;> rfl
    rw [e]; simp only [Int.zero_mul, Int.natCast_zero, Int.mul_zero]; omega
  | succ h ih =>
    have hv := v_nn hnn i
    have e1 : ns.getD i 0 * ((h + 1 : Nat) : Int) = ns.getD i 0 * (h : Int) + ns.getD i 0 := by rw [Int.natCast_succ, Int.mul_add, Int.mul_one]
    rw [traj_succ hnn hpos h i, e1]
    split
    · next e =>
      have := (traj_base hnn hpos h).2.2.2.elig
      rw [← e, Int.mul_add, Int.mul_one] at this
      rw [Int.add_mul, Int.one_mul]; omega
    · omega
theorem traj_order (h i j : Nat) (hi : i < ns.length) (hlt : ns.getD j 0 < ns.getD i 0) : (traj ns h).getD j 0 ≤ (traj ns h).getD i 0 := by
  induction h with
  | zero =>
    have e : ∀ i, (traj ns 0).getD i 0 = 0 := by
      intro i; rw [traj, List.getD_eq_getElem?_getD, List.getElem?_replicate]; split <;> rfl
    rw [e, e]; exact Int.le_refl _
  | succ h ih =>
    have sp := (traj_base hnn hpos h).2.2.2
    have h1 := traj_succ hnn hpos h j
    have h2 := traj_mono1 hnn hpos h i
    rw [h1]
    split
    · next e =>
      rcases Int.lt_or_eq_of_le ih with h3 | h3
      · omega
      · exfalso
        rw [e] at h3 hlt
        have hr := traj_nn hnn hpos h (pick ns (traj ns h))
        have h4 := sp.elig
        have h5 : ns.getD (pick ns (traj ns h)) 0 * ((h : Int) + 1) ≤ ns.getD i 0 * ((h : Int) + 1) := Int.mul_le_mul_of_nonneg_right (by omega) (by omega)
        have h6 := sp.best i hi (by rw [← h3]; omega)
        rw [← h3] at h6
        have := Int.le_of_mul_le_mul_right h6 (by omega)
        omega
    · omega
theorem traj_lower (H s : Nat) (hs : s < ns.length) : -((traj ns H).getD s 0 * ns.sum - ns.getD s 0 * (H : Int)) < ns.sum := by
  refine Int.not_le.mp fun hbad => ?_
  have hbad' : ((traj ns H).getD s 0 + 1) * ns.sum ≤ ns.getD s 0 * (H : Int) := by rw [Int.add_mul, Int.one_mul]; omega
  have hl := fun h => (traj_base hnn hpos h).1
  have hsum := fun h => (traj_base hnn hpos h).2.2.1
  -- P t: no over-served party gains from t on
  rcases first_bad (fun (t : Nat) => ∀ i, i < ns.length → ns.getD i 0 * (H : Int) < (traj ns H).getD i 0 * ns.sum → (traj ns t).getD i 0 = (traj ns H).getD i 0) H (fun _ _ _ => rfl) with h0 | ⟨t, htH, hnt, ht1⟩
  · -- nobody is over-served
    have hno : ∀ i, i < ns.length → (traj ns H).getD i 0 * ns.sum ≤ ns.getD i 0 * (H : Int) := by
      intro i hi
      refine Int.not_lt.mp fun h1 => ?_
      have h2 := h0 i hi h1
      have e : (traj ns 0).getD i 0 = 0 := by
        rw [traj, List.getD_eq_getElem?_getD, List.getElem?_replicate]; split <;> rfl
      rw [e] at h2
      rw [← h2, Int.zero_mul] at h1
      have := Int.mul_nonneg (v_nn hnn i) (Int.natCast_nonneg H)
      omega
    have e0 : ∀ i, (traj ns 0).getD i 0 = 0 := by
      intro i; rw [traj, List.getD_eq_getElem?_getD, List.getElem?_replicate]; split <;> rfl
    have h1 := sums_clash (k := (H : Int)) (V := ns.sum) rfl (hl H) (hl 0) rfl hs (fun i hi => by rw [e0, Int.sub_zero]; exact hno i hi) (d := ns.sum) (by rw [e0, Int.sub_zero]; rw [Int.add_mul, Int.one_mul] at hbad'; exact hbad')
    rw [hsum H, hsum 0] at h1
    rw [Int.mul_comm ns.sum] at h1
    simp only [Int.natCast_zero, Int.sub_zero] at h1
    omega
  · -- the last seat of an over-served party
    have sp := (traj_base hnn hpos t).2.2.2
    have hex : ∃ u, u < ns.length ∧ ns.getD u 0 * (H : Int) < (traj ns H).getD u 0 * ns.sum ∧ (traj ns t).getD u 0 ≠ (traj ns H).getD u 0 := by
      refine Classical.byContradiction fun hno => hnt fun i hi h1 => Classical.byContradiction fun h2 => hno ⟨i, hi, h1, h2⟩
    obtain ⟨u, hu, huO, hune⟩ := hex
    have hu1 := ht1 u hu huO
    have hup : u = pick ns (traj ns t) := by
      refine Classical.byContradiction fun h1 => hune ?_
      rw [← hu1, traj_succ hnn hpos t u, if_neg h1]
    have hRu : (traj ns t).getD u 0 + 1 = (traj ns H).getD u 0 := by
      rw [← hu1, traj_succ hnn hpos t u, if_pos hup]
    -- the parties that stand ahead of it are at their upper quota
    have hD : ∀ j, j < ns.length → ((traj ns t).getD j 0 + 1) * ns.sum ≤ ns.getD j 0 * (H : Int) → ns.getD j 0 * ((t : Int) + 1) ≤ (traj ns (t + 1)).getD j 0 * ns.sum := by
      intro j hj hjD
      have hju : j ≠ u := by
        intro e
        rw [e, hRu] at hjD
        omega
      rw [traj_succ hnn hpos t j, if_neg (by rw [← hup]; exact hju)]
      refine Int.not_lt.mp fun h1 => ?_
      have h2 := sp.best j hj h1
      rw [← hup, hRu] at h2
      have hvj : 0 < ns.getD j 0 := by
        have h3 : 0 < ((traj ns t).getD j 0 + 1) * ns.sum := Int.mul_pos (by have := traj_nn hnn hpos t j; omega) hpos
        rcases Int.lt_or_eq_of_le (v_nn hnn j) with h4 | h4
        · exact h4
        · rw [← h4, Int.zero_mul] at hjD; omega
      have h3 : ns.getD j 0 * (traj ns H).getD u 0 * ns.sum ≤ ns.getD u 0 * ((traj ns t).getD j 0 + 1) * ns.sum := Int.mul_le_mul_of_nonneg_right h2 (by omega)
      have h4 : ns.getD u 0 * (((traj ns t).getD j 0 + 1) * ns.sum) ≤ ns.getD u 0 * (ns.getD j 0 * (H : Int)) := Int.mul_le_mul_of_nonneg_left hjD (v_nn hnn u)
      have h5 : ns.getD j 0 * (ns.getD u 0 * (H : Int)) < ns.getD j 0 * ((traj ns H).getD u 0 * ns.sum) := Int.mul_lt_mul_of_pos_left huO hvj
      rw [Int.mul_assoc, Int.mul_assoc] at h3
      have e : ns.getD u 0 * (ns.getD j 0 * (H : Int)) = ns.getD j 0 * (ns.getD u 0 * (H : Int)) := by rw [← Int.mul_assoc, ← Int.mul_assoc, Int.mul_comm (ns.getD u 0)]
      omega
    have hm0 : ∀ i, (traj ns t).getD i 0 ≤ (traj ns (t + 1)).getD i 0 := traj_mono1 hnn hpos t
    have hmH : ∀ i, (traj ns (t + 1)).getD i 0 ≤ (traj ns H).getD i 0 := by
      intro i
      have := traj_mono hnn hpos (t + 1) i (H - (t + 1))
      rwa [show t + 1 + (H - (t + 1)) = H by omega] at this
    have hHt : ∀ i, ns.getD i 0 * ((H : Int) - ((t : Int) + 1)) = ns.getD i 0 * (H : Int) - ns.getD i 0 * ((t : Int) + 1) := fun i => Int.mul_sub _ _ _
    have hall : ∀ i, i < ns.length → ((traj ns H).getD i 0 - (traj ns (t + 1)).getD i 0) * ns.sum ≤ ns.getD i 0 * ((H : Int) - ((t : Int) + 1)) := by
      intro i hi
      rcases Int.lt_or_eq_of_le (hmH i) with h1 | h1
      · -- it gained a seat, so it is not over-served
        have h2 : (traj ns H).getD i 0 * ns.sum ≤ ns.getD i 0 * (H : Int) := by
          refine Int.not_lt.mp fun h3 => ?_
          have := ht1 i hi h3
          omega
        have h3 : ((traj ns t).getD i 0 + 1) * ns.sum ≤ (traj ns H).getD i 0 * ns.sum := Int.mul_le_mul_of_nonneg_right (by have := hm0 i; omega) (by omega)
        have h4 := hD i hi (by omega)
        rw [hHt, Int.sub_mul]; omega
      · rw [h1, Int.sub_self, Int.zero_mul]
        exact Int.mul_nonneg (v_nn hnn i) (by omega)
    have hsD : ((traj ns t).getD s 0 + 1) * ns.sum ≤ ns.getD s 0 * (H : Int) := by
      refine Int.le_trans (Int.mul_le_mul_of_nonneg_right ?_ (by omega)) hbad'
      have := hm0 s
      have := hmH s
      omega
    have h4 := hD s hs hsD
    have h1 := sums_clash (k := (H : Int) - ((t : Int) + 1)) (V := ns.sum) rfl (hl H) (hl (t + 1)) rfl hs hall (d := ns.sum) (by rw [hHt, Int.sub_mul]; rw [Int.add_mul, Int.one_mul] at hbad'; omega)
    rw [hsum H, hsum (t + 1), Int.mul_comm ns.sum] at h1
    rw [Int.natCast_succ] at h1
    omega
theorem traj_facts (h : Nat) : (traj ns h).length = ns.length ∧ (traj ns h).sum = (h : Int) ∧ (∀ i, i < ns.length → 0 ≤ (traj ns h).getD i 0 ∧ (traj ns h).getD i 0 ≤ (h : Int)) ∧
    (∀ i, i < ns.length → (traj ns (h - 1)).getD i 0 ≤ (traj ns h).getD i 0) ∧
    (∀ i, i < ns.length → (traj ns h).getD i 0 * ns.sum - ns.getD i 0 * (h : Int) < ns.sum ∧ -((traj ns h).getD i 0 * ns.sum - ns.getD i 0 * (h : Int)) < ns.sum) ∧
    (∀ i j, i < ns.length → j < ns.length → ns.getD i 0 ≤ ns.getD j 0 ∨ (traj ns h).getD j 0 ≤ (traj ns h).getD i 0) := by
  obtain ⟨hl, hr, hs, _⟩ := traj_base hnn hpos h
  refine ⟨hl, hs, fun i hi => ⟨traj_nn hnn hpos h i, ?_⟩, fun i _ => ?_, fun i hi => ⟨traj_upper hnn hpos h i, traj_lower hnn hpos h i hi⟩, fun i j hi _ => ?_⟩
  · rw [← hs]; exact mem_le_sum _ hr _ (getD_mem (by omega))
  · cases h with
    | zero => exact Int.le_refl _
    | succ h => exact traj_mono1 hnn hpos h i
  · by_cases hlt : ns.getD j 0 < ns.getD i 0
    · exact .inr (traj_order hnn hpos h i j hi hlt)
    · exact .inl (by omega)
end
end Mine
end

-- H0
section
set_option maxHeartbeats 8000000
open PySem PySem.W PyProof.Rows
namespace Mine
open_top hd for PySem.Challenge.rw_jg0014_01
end Mine
end

-- Q1
section
set_option maxHeartbeats 8000000
open PySem PySem.W PySem.Spec PySem.Calls PyProof.Rows
namespace Mine
section
variable {prog : Program} {w : World} {A₀ A : Around} {s : Shared} {base h₀ : Heap} {outer : List Env} {L : Addr} {m : Str → Option Value} {env : Env} {news : List (Addr × Obj)}
  {R : Result → Shared → Prop} {name qual : Str} {params : Arguments} {body : List Stmt} {scope : Scope} {dV kV doc pm cdv ct : Value} {an : Option Addr} {fo : Obj} {f : Addr} {args : Args} {binds : List (Str × Value)}

/-- a call of a def with cells; the callee sees the whole heap as its ground -/
theorem call_ground (B : Below A₀ base outer h₀) (F : Fr h₀ L s.heap m) (hlim : h₀.NoLimit) (hA : A.frames = some (env :: outer)) (hf : env.frame = some L) (hke : env.scope.kind = .function)
    (ho : s.heap.get? f = some fo) (hd : fo.data = .func (fnX name qual params body scope [] dV kV doc pm an cdv ct)) (hcd : s.heap.CodeRec cdv qual) (hroom : A.depth < recursionLimit)
    (hbind : BindsTo s (fnX name qual params body scope [] dV kV doc pm an cdv ct) args binds)
    (hkind : ∀ n, ∀ x ∈ binds, scope.names.lookup x.1 = some .local ∨ (scope.names.lookup x.1 = some .cell ∧ ((cellsFrom n scope.names []).lookup x.1).isSome = true))
    (hnd : ((cellsFrom 0 scope.names []).map (·.1)).Nodup)
    (h : ∀ L' h₁ tk cells, Fr s.heap L' h₁ (bindL (envOfC qual scope L' f cdv).kindOf binds fun _ => none) → News s.heap L' h₁ cells →
      CellsAre (bindC (envOfC qual scope L' f cdv).kindOf binds fun _ => none) (cellsFrom (L' + 1) scope.names []) cells → Below A base (env :: outer) s.heap →
      wpAny (model prog w) (A.deeper (envOfC qual scope L' f cdv)) (execs body (envOfC qual scope L' f cdv))
        (fun fl s' => LeaveK h₀ L m s.heap R (match fl with | .ret v => v | _ => .none) s')
        (fun e s' => wpAny (model prog w) (A.deeper (envOfC qual scope L' f cdv)) (leaving (envOfC qual scope L' f cdv) e) (fun _ s'' => R (.error e) s'') (fun e' s'' => R (.error e') s'') s')
        { s with heap := h₁, toks := tk })
    (hco : scope.isCoroutine = false := by rfl) (hgen : scope.isGenerator = false := by rfl) (hk : scope.kind = .function := by rfl) : codeAny (model prog w) A (.call (.ref f) args) R s := by
  have N0 : News h₀ L s.heap [] := News.nil
  obtain ⟨FG, BG, st, lv⟩ := groundX (R := R) B F N0 hA hf hke
  refine codeAny_call_function hroom ho hd hco hgen rfl hcd (hbind _ _ _ _ ?_)
  refine wpAny_newFunctionEnv_cells hk (hkind _) fun env' he s' x => ?_
  subst he
  refine ⟨(hlim.keeps F.keep).keeps x.toInCall.keep, codeAny_func ?_⟩
  obtain ⟨h₁, tk, rfl, _⟩ := x.done
  have hk₁ := x.toInCall.keep
  obtain ⟨cells, NC, Y⟩ := Cl.news (h₀ := s.heap) (Nat.le_refl _) fun n c hm => ⟨x.cell n c (lookup_of_mem_nodup (cellsFrom_names scope.names 0 (s.heap.objs.size + 1) [] [] rfl ▸ hnd) hm), x.above n c hm⟩
  exact wpAny_mono (h s.heap.objs.size h₁ tk cells ⟨x.toInCall.ns, fun b o e => hk₁ b o e, Nat.le_refl _⟩ NC Y BG) (fun fl s' hl => lv _ _ hl) fun _ _ y => y

theorem call_groundK {K : Frag} {p : Program} {loose : List Str} {mean : ExcName → Option Value} {mg mb : Str → Option Value} {oc : Value} {od : Option Addr} {osl : Array (Option Value)}
    (B : Below A₀ base outer h₀) (F : Fr h₀ L s.heap m) (X₀ : K.In h₀) (T : Top p loose mean mg mb h₀) (hA : A.frames = some (env :: outer)) (hf : env.frame = some L) (hke : env.scope.kind = .function)
    (ho : K.lookup f = some ⟨oc, od, .func (fnOf name qual params body scope dV kV doc pm an cdv ct), osl⟩) (hcd : codeIn K cdv qual = true) (hroom : A.depth < recursionLimit)
    (hbind : BindsTo s (fnOf name qual params body scope dV kV doc pm an cdv ct) args binds)
    (hkind : (binds.all fun y => scope.names.lookup y.1 == some .local || scope.names.lookup y.1 == some .cell) = true)
    (hnd : ((cellsFrom 0 scope.names []).map (·.1)).Nodup)
    (h : ∀ L' h₁ tk cells, Fr s.heap L' h₁ (bindL (envOfC qual scope L' f cdv).kindOf binds fun _ => none) → News s.heap L' h₁ cells →
      CellsAre (bindC (envOfC qual scope L' f cdv).kindOf binds fun _ => none) (cellsFrom (L' + 1) scope.names []) cells → Below A base (env :: outer) s.heap → K.In s.heap → Top p loose mean mg mb s.heap →
      wpAny (model prog w) (A.deeper (envOfC qual scope L' f cdv)) (execs body (envOfC qual scope L' f cdv))
        (fun fl s' => LeaveK h₀ L m s.heap R (match fl with | .ret v => v | _ => .none) s')
        (fun e s' => wpAny (model prog w) (A.deeper (envOfC qual scope L' f cdv)) (leaving (envOfC qual scope L' f cdv) e) (fun _ s'' => R (.error e) s'') (fun e' s'' => R (.error e') s'') s')
        { s with heap := h₁, toks := tk })
    (hco : scope.isCoroutine = false) (hgen : scope.isGenerator = false) (hk : scope.kind = .function) : codeAny (model prog w) A (.call (.ref f) args) R s :=
  call_ground B F T.nolimit hA hf hke ((X₀.keeps F.keep) _ _ ho) rfl (codeRec_of (X₀.keeps F.keep) hcd) hroom hbind (kindsX hkind) hnd
    (fun L' h₁ tk cells F' N' Y B' => h L' h₁ tk cells F' N' Y B' (X₀.keeps F.keep) (T.keeps F.keep)) hco hgen hk
end
end Mine
end

-- Q2
section
set_option maxHeartbeats 8000000
open PySem PySem.W PySem.Spec PySem.Calls PyProof.Rows
namespace Mine
/-- what a turn of quota's while leaves -/
def QEnd (g : Heap) (L D c1 c2 c3 c4 c5 c6 : Addr) (oV oR : Obj) (s : Shared) (stored : List Str) (m₀ : Str → Option Value) (P : List Int → Prop) (μ : List Int → Nat) (rs : List Int) (s₂ : Shared) : Prop :=
  ∃ (vs' : List Value) (rs' : List Int) (n' : Nat) (oM oU oQ oC : Obj) (vM vU vQ vC : Option Value) (h' : Heap) (tk' : Nat) (m' : Str → Option Value),
    s₂ = { s with heap := h', toks := tk' } ∧ Fr g L h' m' ∧ News g L h' [(D, listOf vs'.toArray n'), (c6, oM), (c5, oU), (c4, oQ), (c3, oC), (c2, oR), (c1, oV)] ∧
    (∀ z, stored.contains z = false → m' z = m₀ z) ∧ oM.data = .cell vM ∧ oU.data = .cell vU ∧ oQ.data = .cell vQ ∧ oC.data = .cell vC ∧ IntsAre vs' rs' ∧ P rs' ∧ μ rs' < μ rs
def QPost (g : Heap) (L D c1 c2 c3 c4 c5 c6 : Addr) (oV oR : Obj) (s : Shared) (stored : List Str) (m₀ : Str → Option Value) (P : List Int → Prop) (μ : List Int → Nat) (Q : Flow → Shared → Prop) (rs : List Int) (f : Flow) (s₂ : Shared) : Prop :=
  match f with
  | .ret v => Q (.ret v) s₂
  | .brk => Q .next s₂
  | _ => QEnd g L D c1 c2 c3 c4 c5 c6 oV oR s stored m₀ P μ rs s₂
structure QS where
  vs : List Value
  rs : List Int
  n : Nat
  oM : Obj
  oU : Obj
  oQ : Obj
  oC : Obj
section
variable {prog : Program} {w : World} {A : Around} {E : Value → Shared → Prop} {Q : Flow → Shared → Prop} {s : Shared} {env : Env} {g : Heap} {L : Addr}
theorem q_while {test : Expr} {body : List Stmt} {pos : Pos} {m₀ : Str → Option Value} {D l c1 c2 c3 c4 c5 c6 : Addr} {ol oM oU oQ oC oR oV : Obj} {vM vU vQ vC : Option Value} {vs : List Value} {n : Nat} {rs : List Int} {stored : List Str} {P : List Int → Prop} {μ : List Int → Nat}
    (F : Fr g L s.heap m₀) (N : News g L s.heap [(D, listOf vs.toArray n), (l, ol), (c6, oM), (c5, oU), (c4, oQ), (c3, oC), (c2, oR), (c1, oV)])
    (dM : oM.data = .cell vM) (dU : oU.data = .cell vU) (dQ : oQ.data = .cell vQ) (dC : oC.data = .cell vC) {vR vV : Value} (dR : oR.data = .cell (some vR)) (dV : oV.data = .cell (some vV)) (hI : IntsAre vs rs) (hP : P rs)
    (turn : ∀ (vs : List Value) (rs : List Int) (n : Nat) (oM oU oQ oC : Obj) (vM vU vQ vC : Option Value) (u : Str → Option Value) (h : Heap) (tk : Nat),
      oM.data = .cell vM → oU.data = .cell vU → oQ.data = .cell vQ → oC.data = .cell vC → oR.data = .cell (some vR) → oV.data = .cell (some vV) → IntsAre vs rs → P rs →
      Fr g L h (fun z => if stored.contains z then u z else m₀ z) → News g L h [(D, listOf vs.toArray n), (c6, oM), (c5, oU), (c4, oQ), (c3, oC), (c2, oR), (c1, oV)] →
      wpAny (model prog w) A (isTrue test env (eval test env)) (fun b s₂ =>
        if b = true then wpAny (model prog w) A (execs body env) (QPost g L D c1 c2 c3 c4 c5 c6 oV oR s stored m₀ P μ Q rs) E s₂ else Q .next s₂) E { s with heap := h, toks := tk })
    (hE : PassesOwn (model prog w) A env E := by passes_own) :
    wpAny (model prog w) A (exec (.While test body [] pos) env) Q E s := by
  refine ksw_while (σ := QS) (fun c => [(D, listOf c.vs.toArray c.n), (c6, c.oM), (c5, c.oU), (c4, c.oQ), (c3, c.oC), (c2, oR), (c1, oV)]) (fun _ => [])
    (fun c => IntsAre c.vs c.rs ∧ (∃ v, c.oM.data = .cell v) ∧ (∃ v, c.oU.data = .cell v) ∧ (∃ v, c.oQ.data = .cell v) ∧ (∃ v, c.oC.data = .cell v)) stored (fun c => P c.rs) (fun c => μ c.rs) ⟨vs, rs, n, oM, oU, oQ, oC⟩ F ?_ ⟨hI, ⟨_, dM⟩, ⟨_, dU⟩, ⟨_, dQ⟩, _, dC⟩ (fun p hp => nomatch hp) hP ?_ hE
  · refine kst_newsOf N fun p hp => ?_
    simp only [List.mem_cons, List.not_mem_nil, or_false] at hp ⊢
    rcases hp with h | h | h | h | h | h | h <;> simp [h]
  · rintro ⟨vs, rs, n, oM, oU, oQ, oC⟩ u h tk ⟨hI, ⟨vM, dM⟩, ⟨vU, dU⟩, ⟨vQ, dQ⟩, vC, dC⟩ hP F N
    refine wpAny_mono (turn vs rs n oM oU oQ oC vM vU vQ vC u h tk dM dU dQ dC dR dV hI hP F N) (fun b s₂ x => ?_) fun _ _ y => y
    cases b with
    | false => exact x
    | true =>
      refine wpAny_mono x (fun f s₃ y => ?_) fun _ _ y => y
      have up : QEnd g L D c1 c2 c3 c4 c5 c6 oV oR s stored m₀ P μ rs s₃ → KswEnd g L s (fun c : QS => [(D, listOf c.vs.toArray c.n), (c6, c.oM), (c5, c.oU), (c4, c.oQ), (c3, c.oC), (c2, oR), (c1, oV)]) (fun _ => [])
          (fun c => IntsAre c.vs c.rs ∧ (∃ v, c.oM.data = .cell v) ∧ (∃ v, c.oU.data = .cell v) ∧ (∃ v, c.oQ.data = .cell v) ∧ (∃ v, c.oC.data = .cell v)) stored m₀ (fun c => P c.rs) (fun c => μ c.rs) ⟨vs, rs, n, oM, oU, oQ, oC⟩ s₃ := by
        rintro ⟨vs', rs', n', oM', oU', oQ', oC', vM', vU', vQ', vC', h', tk', m', rfl, F', N', hm, dM', dU', dQ', dC', hI', hP', hμ⟩
        exact ksw_end ⟨vs', rs', n', oM', oU', oQ', oC'⟩ F' N' (fun _ h => h) ⟨hI', ⟨_, dM'⟩, ⟨_, dU'⟩, ⟨_, dQ'⟩, _, dC'⟩ (fun p hp => nomatch hp) (fun z _ hz => hm z hz) hP' hμ
      cases f with
      | ret v => exact y
      | brk => exact y
      | next => exact up y
      | cont => exact up y
end
end Mine
end

-- Q3
section
set_option maxHeartbeats 8000000
open PySem PySem.W PySem.Spec PySem.Calls PyProof.Rows
namespace Mine
theorem prodl_snoc (l : List Int) (r : Int) : prodl (l ++ [r]) = prodl l * (r + 1) := by simp [prodl, List.foldl_append]
theorem rk_map (n : Nat) (f : Nat → Int) : (rangeKs 0 ((n : Int) - 0).toNat).map (fun k => f k.toNat) = (List.range n).map f := by
  simp [rangeKs, Function.comp_def]
theorem rk_filter (n : Nat) (p : Nat → Bool) : (rangeKs 0 ((n : Int) - 0).toNat).filter (fun k => p k.toNat) = List.map (fun (i : Nat) => (i : Int)) ((List.range n).filter p) := by
  simp [rangeKs, List.filter_map, Function.comp_def]
theorem pow8_le : ∀ n, n ≤ 5 → 8 ^ n ≤ 32768 := by decide
theorem foldl_bound : ∀ (l : List Int) (c : Int), 1 ≤ c → (∀ r ∈ l, 0 ≤ r ∧ r ≤ 7) → 1 ≤ l.foldl (fun c r => c * (r + 1)) c ∧ l.foldl (fun c r => c * (r + 1)) c ≤ c * (8 : Int) ^ l.length
  | [], c, hc, _ => by simp; exact hc
  | r :: l, c, hc, h => by
    have hr := h r (.head _)
    have h1 : 1 ≤ c * (r + 1) := by
      have : 1 * 1 ≤ c * (r + 1) := Int.mul_le_mul hc (by omega) (by decide) (by omega)
      omega
    have ih := foldl_bound l (c * (r + 1)) h1 fun x hx => h x (.tail _ hx)
    refine ⟨ih.1, Int.le_trans ih.2 ?_⟩
    rw [List.length_cons, Int.pow_succ, Int.mul_comm ((8 : Int) ^ l.length) 8, ← Int.mul_assoc]
    refine Int.mul_le_mul_of_nonneg_right ?_ (Int.pow_nonneg (by decide))
    exact Int.mul_le_mul_of_nonneg_left (by omega) (by omega)
theorem prodl_bound {l : List Int} (hl : l.length ≤ 5) (h : ∀ r ∈ l, 0 ≤ r ∧ r ≤ 7) : 1 ≤ prodl l ∧ prodl l ≤ 32768 := by
  have := foldl_bound l 1 (by decide) h
  refine ⟨this.1, Int.le_trans this.2 ?_⟩
  rw [Int.one_mul]
  have := pow8_le l.length hl
  exact_mod_cast this

section
variable {prog : Program} {w : World} {A : Around} {E : Value → Shared → Prop} {Q : Flow → Shared → Prop} {s : Shared} {env : Env} {g : Heap}
def FEnd (g : Heap) (L D c1 c2 c3 c4 c5 c6 : Addr) (oM oU oQ oR oV : Obj) (vs : List Value) (n : Nat) (s : Shared) (x : Str) (m₀ : Str → Option Value) (own : List (Addr × Obj)) (v : Int) (s₂ : Shared) : Prop :=
  ∃ (oC : Obj) (t : Tok) (h' : Heap) (tk' : Nat) (m' : Str → Option Value), s₂ = { s with heap := h', toks := tk' } ∧ Fr g L h' m' ∧
    News g L h' ([(D, listOf vs.toArray n), (c6, oM), (c5, oU), (c4, oQ), (c3, oC), (c2, oR), (c1, oV)] ++ own) ∧ oC.data = .cell (some (.int v t)) ∧ (∀ z, z ≠ x → m' z = m₀ z)
def FPost (g : Heap) (L D c1 c2 c3 c4 c5 c6 : Addr) (oM oU oQ oR oV : Obj) (vs : List Value) (n : Nat) (s : Shared) (x : Str) (m₀ : Str → Option Value) (own : List (Addr × Obj)) (Q : Flow → Shared → Prop) (v : Int) (f : Flow) (s₂ : Shared) : Prop :=
  match f with
  | .ret v => Q (.ret v) s₂
  | .brk => Q .next s₂
  | _ => FEnd g L D c1 c2 c3 c4 c5 c6 oM oU oQ oR oV vs n s x m₀ own v s₂
theorem q_for {x : Str} {body : List Stmt} {m₀ : Str → Option Value} {D c1 c2 c3 c4 c5 c6 : Addr} {oM oU oQ oC oR oV : Obj} {vs : List Value} {n : Nat} {rs : List Int} {t₀ : Tok}
    (hh : A.handled = none) (hI : IntsAre vs rs) (F : Fr g env.locals s.heap m₀) (N : News g env.locals s.heap [(D, listOf vs.toArray n), (c6, oM), (c5, oU), (c4, oQ), (c3, oC), (c2, oR), (c1, oV)])
    (dC : oC.data = .cell (some (.int 1 t₀))) (hl : rs.length ≤ 5) (hr : ∀ r ∈ rs, 0 ≤ r ∧ r ≤ 7)
    (turn : ∀ (oC : Obj) (c r : Int) (t0 t : Tok) (v : Int) h tk own, OwnOff own [D, c6, c5, c4, c3, c2, c1] → oC.data = .cell (some (.int c t0)) → 1 ≤ c → c ≤ 32768 → 0 ≤ r → r ≤ 7 → v = c * (r + 1) →
      Fr g env.locals h (fun y => if y = x then some (.int r t) else m₀ y) → News g env.locals h ([(D, listOf vs.toArray n), (c6, oM), (c5, oU), (c4, oQ), (c3, oC), (c2, oR), (c1, oV)] ++ own) →
      wpAny (model prog w) A (execs body env) (FPost g env.locals D c1 c2 c3 c4 c5 c6 oM oU oQ oR oV vs n { s with heap := h, toks := tk } x m₀ own Q v) E { s with heap := h, toks := tk })
    (done : ∀ (oC : Obj) (t : Tok) (u : Str → Option Value) h tk, oC.data = .cell (some (.int (prodl rs) t)) → 1 ≤ prodl rs → prodl rs ≤ 32768 → Fr g env.locals h (fun y => if y = x then u y else m₀ y) →
      News g env.locals h [(D, listOf vs.toArray n), (c6, oM), (c5, oU), (c4, oQ), (c3, oC), (c2, oR), (c1, oV)] → Q .next { s with heap := h, toks := tk }) :
    wpAny (model prog w) A (pyIter (.ref D)) (fun it s₂ => LoopAtV prog w A g env x body Q E it s₂) E s := by
  refine kst_listL (σ := Obj) (fun c => [(D, listOf vs.toArray n), (c6, oM), (c5, oU), (c4, oQ), (c3, c), (c2, oR), (c1, oV)]) (fun _ => []) (fun _ => True) [] (fun pre c => ∃ t, c.data = .cell (some (.int (prodl pre) t))) oC hh (fun _ => .head _) hI F N trivial (fun p hp => nomatch hp) ⟨_, dC⟩ ?_ ?_
  · rintro c pre post r t u h tk own e hm ho _ ⟨t0, dc⟩ F' N'
    subst e
    have hb := prodl_bound (l := pre) (by rw [List.length_append] at hl; omega) fun q hq => hr q (List.mem_append_left _ hq)
    refine wpAny_mono (turn c (prodl pre) r t0 t (prodl (pre ++ [r])) h tk own ho dc hb.1 hb.2 (hr r hm).1 (hr r hm).2 (prodl_snoc _ _) (by simpa [kstB] using F') N') (fun f s₂ y => ?_) fun _ _ y => y
    have up : FEnd g env.locals D c1 c2 c3 c4 c5 c6 oM oU oQ oR oV vs n { s with heap := h, toks := tk } x m₀ own (prodl (pre ++ [r])) s₂ → InvEndN g env.locals (KstS (fun c : Obj => [(D, listOf vs.toArray n), (c6, oM), (c5, oU), (c4, oQ), (c3, c), (c2, oR), (c1, oV)]) (fun _ => []) (fun _ => True) x [] m₀ (fun pre c => ∃ t, c.data = .cell (some (.int (prodl pre) t))) (pre ++ [r])) own [D, c6, c5, c4, c3, c2, c1] { s with heap := h, toks := tk } s₂ := by
      rintro ⟨oC', t', h', tk', m', rfl, F', N', dC', hm⟩
      exact InvEndN.intro F' N' ⟨oC', rfl, trivial, (fun p hp => nomatch hp), (fun z hz _ _ => hm z hz), _, dC'⟩ rfl (fun p hp => List.mem_append_left _ hp) fun p hp => List.mem_append_right _ hp
    cases f with
    | ret v => exact y
    | brk => exact y
    | next => exact up y
    | cont => exact up y
  · rintro c u h tk _ ⟨t, dc⟩ F' N'
    have hb := prodl_bound hl hr
    exact done c t u h tk dc hb.1 hb.2 (by simpa [kstB] using F') N'
end
end Mine
end

-- Q4
section
set_option maxHeartbeats 8000000
open PySem PySem.W PySem.Spec PySem.Calls PyProof.Rows
namespace Mine
theorem log2_mono {a b : Nat} (h : a ≤ b) : a.log2 ≤ b.log2 := by
  by_cases ha : a = 0
  · subst ha; simp
  · have hb : b ≠ 0 := by omega
    exact (Nat.le_log2 hb).mpr (Nat.le_trans (Nat.log2_self_le ha) h)
theorem noPylong_near {x y : Int} (h : x.natAbs ≤ 8 * y.natAbs) : Builtin.divisionGoesByPylong x y = false := by
  unfold Builtin.divisionGoesByPylong
  simp only [beq_iff_eq, Bool.and_eq_false_iff, decide_eq_false_iff_not]
  by_cases hx : x = 0
  · right; simp [hx]
  by_cases hy : y = 0
  · left; simp [hy]
  right
  rw [if_neg hx, if_neg hy]
  have h1 := log2_mono h
  have h2 : (8 * y.natAbs).log2 = y.natAbs.log2 + 3 := by
    have hy' : y.natAbs ≠ 0 := by omega
    rw [show 8 * y.natAbs = 2 * (2 * (2 * y.natAbs)) by omega, Nat.log2_two_mul (by omega), Nat.log2_two_mul (by omega), Nat.log2_two_mul hy']
  omega
theorem noPylong_pos {p c y : Int} (h0 : 0 ≤ p) (h1 : p ≤ y) (hc0 : 0 ≤ c) (hc : c ≤ 8) : Builtin.divisionGoesByPylong (p * c) y = false := by
  refine noPylong_near ?_
  rw [Int.natAbs_mul, Nat.mul_comm]
  exact Nat.mul_le_mul (by omega) (by omega)
theorem noPylong_neg {p c y : Int} (h0 : 0 ≤ p) (h1 : p ≤ y) (hc0 : 0 ≤ c) (hc : c ≤ 8) : Builtin.divisionGoesByPylong (-p * c) y = false := by
  refine noPylong_near ?_
  rw [Int.natAbs_mul, Nat.mul_comm]
  exact Nat.mul_le_mul (by omega) (by omega)
end Mine
end

-- Q5
section
set_option maxHeartbeats 8000000
open PySem PySem.W PySem.Spec PySem.Calls PyProof.Rows
namespace Mine
theorem qq_hi {ns rs : List Int} {k : Nat} {l2 : Int} (e2 : l2 = upq ns rs (ns.getD k 0)) (h : l2 ≤ rs.getD k 0) : qq ns rs k = 0 := by
  unfold qq; rw [if_pos (by rw [← e2]; exact h)]
theorem qq_lo {ns rs : List Int} {k : Nat} {l1 l2 : Int} (e1 : l1 = qv ns rs k) (e2 : l2 = upq ns rs (ns.getD k 0)) (h : ¬ l2 ≤ rs.getD k 0) : qq ns rs k = l1 := by
  unfold qq; rw [if_neg (by rw [← e2]; exact h), e1]
theorem fil_in {f : Nat → Int} {c : Int} {l : List Int} {k : Int} (h : f k.toNat = c) : (if decide (f k.toNat = c) = true then l ++ [k] else l) = l ++ [k] := by simp [h]
theorem fil_out {f : Nat → Int} {c : Int} {l : List Int} {k : Int} (h : f k.toNat ≠ c) : (if decide (f k.toNat = c) = true then l ++ [k] else l) = l := by simp [h]
theorem fil_grows (f : Nat → Int) (c : Int) : KPfGrows (fun l k => if decide (f k.toNat = c) = true then l ++ [k] else l) := by
  intro l k
  dsimp only
  split <;> simp
theorem fil_all (n : Nat) (f : Nat → Int) (c : Int) : (rangeKs 0 ((n : Int) - 0).toNat).foldl (fun l k => if decide (f k.toNat = c) = true then l ++ [k] else l) [] = List.map (fun (i : Nat) => (i : Int)) ((List.range n).filter (fun k => decide (f k = c))) := by
  rw [filt_fold (fun k => decide (f k.toNat = c)), List.nil_append, rk_filter n (fun k => decide (f k = c))]
/-- the first of the greatest, as the walk meets it -/
theorem pick_walk {ns rs L3 : List Int} {M : Int} (e : (List.range ns.length).map (qq ns rs) = L3) (h1 : M ∈ L3) (h2 : ∀ a, a ∈ L3 → a ≤ M) :
    pick ns rs < ns.length ∧ qq ns rs (pick ns rs) = M ∧ ∃ t, (List.range ns.length).filter (fun k => decide (qq ns rs k = qq ns rs (pick ns rs))) = pick ns rs :: t := by
  subst e
  have h := pick_of h1 h2
  refine ⟨h.1, h.2.1, ?_⟩
  rw [h.2.1]
  exact h.2.2
section
variable {g : Heap} {L D c1 c2 c3 c4 c5 c6 : Addr} {oV oR : Obj} {s : Shared} {stored : List Str} {m₀ m' : Str → Option Value} {ns rs : List Int} {house : Int} {all : List (Addr × Obj)} {h' : Heap} {tk' : Nat} {n' : Nat} {oM oU oQ oC : Obj} {vM vU vQ vC : Option Value} {vs' : List Value}
theorem q_end (F : Fr g L h' m') (N : News g L h' all) (hs : ∀ p ∈ [(D, listOf vs'.toArray n'), (c6, oM), (c5, oU), (c4, oQ), (c3, oC), (c2, oR), (c1, oV)], p ∈ all) (hm : ∀ z, stored.contains z = false → m' z = m₀ z)
    (dM : oM.data = .cell vM) (dU : oU.data = .cell vU) (dQ : oQ.data = .cell vQ) (dC : oC.data = .cell vC) (hP : RS ns house rs) (hlt : rs.sum < house) (h7 : house ≤ 7) (hp : pick ns rs < ns.length) {rs' : List Int}
    (hI : IntsAre vs' rs') (e : rs' = rs.set (pick ns rs) (rs.getD (pick ns rs) 0 + 1)) :
    QEnd g L D c1 c2 c3 c4 c5 c6 oV oR s stored m₀ (RS ns house) (fun rs => (house - rs.sum).toNat) rs { s with heap := h', toks := tk' } := by
  subst e
  obtain ⟨hS, hsum⟩ := RS_step hP hlt h7 hp
  exact ⟨vs', _, n', oM, oU, oQ, oC, vM, vU, vQ, vC, h', tk', m', rfl, F, kst_newsOf N hs, hm, dM, dU, dQ, dC, hI, hS, by dsimp only; rw [hsum]; omega⟩
end
end Mine
namespace Mine
section
variable {h₀ h' : Heap} {L I C D : Addr} {m : Str → Option Value} {s₁ : Shared} {oI oC oD : Obj} {news : List (Addr × Obj)} {l r : List Int} {a : Int} {t : Tok} {tk : Nat} {y : Value}
theorem ce_el (F : Fr h₀ L h' m) (N : News h₀ L h' ((I, oI) :: (C, oC) :: (D, oD) :: news)) (off : LCg.Off3 I C D news) (e : r = l ++ [a]) :
    LCg.CompEnd h₀ L m s₁ I oI C oC D oD (fun _ => True) (fun y news' => KCiEl news l r y news') (.int a t) { s₁ with heap := h', toks := tk } :=
  LCg.CompEnd.intro F N news (fun _ h => h) off True.intro (kci_el e rfl rfl)
theorem ce_no (F : Fr h₀ L h' m) (N : News h₀ L h' ((I, oI) :: (C, oC) :: (D, oD) :: news)) (off : LCg.Off3 I C D news) (e : r = l) :
    LCg.CompEnd h₀ L m s₁ I oI C oC D oD (fun _ => True) (fun _ news' => KCiNo news l r news') y { s₁ with heap := h', toks := tk } :=
  LCg.CompEnd.intro F N news (fun _ h => h) off True.intro (kci_no e rfl)
end
end Mine
end

-- Q6
section
open PySem PySem.W PySem.Spec PySem.Calls PyProof.Rows
namespace Mine
local macro_rules | `(tactic| k_steps) => `(tactic| repeat' ((fail_if_success (with_reducible show wpAny _ _ (exec (Stmt.While _ _ _ _) _) _ _ _)); (fail_if_success (with_reducible show wpAny _ _ (exec (Stmt.For _ _ _ _ _) _) _ _ _)); (fail_if_success (with_reducible show wpAny _ _ (pyIter (Value.ref _)) (fun it s₂ => LoopAtV _ _ _ _ _ _ _ _ _ it s₂) _ _)); (fail_if_success (with_reducible show LCg.CompSrc _ _ _ _ _ _ _ _ _ _ _ _ _ _)); (fail_if_success (with_reducible show LCt.CompSrcT _ _ _ _ _ _ _ _ _ _ _ _ _ _ _)); (fail_if_success (with_reducible show KCfEl _ _ _ _)); (fail_if_success (with_reducible show KPfDone _)); (fail_if_success (with_reducible show LCg.CompEnd _ _ _ _ _ _ _ _ _ _ _ (fun _ _ => KCiEl _ _ _ _ _) _ _)); (fail_if_success (with_reducible show LCg.CompEnd _ _ _ _ _ _ _ _ _ _ _ (fun _ _ => KCiNo _ _ _ _) _ _)); (fail_if_success (with_reducible show LeaveK _ _ _ _ _ _ _)); (fail_if_success (with_reducible show wpAny _ _ (exec (Stmt.Assign _ (Expr.ListComp _ [{ target := _, iter := _, ifs := _ :: _, is_async := _ }] _ _) _) _) _ _ _)); first | (k_unfold; (try dsimp only)) | (k_end; wrow_close) | walk1 | (dsimp only; walk1) | (leave1; walk_say "STEP leave1"; try dsimp only) | fail "no step"))
local macro_rules | `(tactic| walk_at "binaryOp FloorDiv int int") => `(tactic| ((refine floordiv_int ?nz ?_ (Or.inl ?np)); (case np => first | exact noPylong_neg (by omega) (by omega) (by omega) (by omega) | exact noPylong_pos (by omega) (by omega) (by omega) (by omega)); (case nz => omega)))
theorem idx_lt {n : Nat} {k : Int} (h0 : 0 ≤ k) (h1 : k < 0 + ((((n : Int) - 0).toNat : Nat) : Int)) : k.toNat < n := by omega
theorem rep_flat (n : Nat) : (List.replicate ((n : Int)).toNat [(0 : Int)]).flatten = List.replicate n 0 := by
  rw [Int.toNat_natCast]
  induction n with
  | zero => rfl
  | succ n ih => rw [List.replicate_succ, List.flatten_cons, ih, List.replicate_succ]; rfl
set_option maxHeartbeats 1500000 in
theorem quota_walk {w : World} {p : Program} {loose : List Str} {mean : ExcName → Option Value} {mg mb : Str → Option Value}
  {dp un : Nat} {gd : Option (List Code)} {cn : Str} {cs : Scope} {a : Addr} {ccd : Value} {cl : List (Str × Addr)} {outer : List Env} {A₀ : Around} {base h₀ : Heap} {L : Addr} {m : Str → Option Value} {news : List (Addr × Obj)} {s : Shared}
  {lv : Addr} {vs : List Value} {ns : List Int} {house : Int} {tk : Tok} {args : List Value} (hargs : args = [.ref lv, .int house tk] ∨ args = [.ref lv, .int house tk, .bool true]) (hpos : 0 < ns.sum) (hnn : ∀ n ∈ ns, 0 ≤ n)
    {Q E : Value → Shared → Prop}
   (B : Below A₀ base outer h₀) (F : Fr h₀ L s.heap m) (X : (hd.heap_39 w.params).In h₀) (N : News h₀ L s.heap news) (T : Top p loose mean mg mb h₀) (hck : cs.kind = .function)
   (hl : s.heap.IsList lv vs.toArray) (hI : IntsAre vs ns) (hn : ns.length ≤ 5) (hn0 : 1 ≤ ns.length)
   (hh : 0 ≤ house) (hh7 : house ≤ 7) (hdp : dp + 1 < recursionLimit) (hun : un + 8 < cLine)
   (hret : ∀ r us n h' tk', Fr h₀ L h' m → News h₀ L h' ((r, listOf us.toArray n) :: news) → (∀ q ∈ news, q.1 ≠ r) → IntsAre us (traj ns house.toNat) → Q (.ref r) { s with heap := h', toks := tk' }) :
   wpAny (model PySem.Challenge.rw_jg0014_01.row.prog w) (ktrTop dp un gd cn cs L a ccd cl outer) (call (.ref 74) args) Q E s := by
  w_strict (
   revert X
   k_fill
   intro X
   refine wpAny_call ?_
   k_dflt (refine' call_groundK (binds := [(Str.ofString "votes", .ref lv), (Str.ofString "seats", .int house tk), (Str.ofString "tiesallowed", .bool true)]) ?k1 ?k2 ?k3 ?k5 ?kA ?kF ?kK ?k6 ?k7 ?k8 ?k9 ?kB ?kD ?_ ?c2 ?c3 ?c4; (case kA => exact rfl); (case kF => exact rfl); (case kK => assumption); (case k1 => k_asm); (case k2 => k_asm); (case k3 => k_asm); (case k5 => k_asm); (case k6 => k_is); (case k7 => k_is); (case k8 => ktr_room); (case k9 => rcases hargs with e | e <;> subst e <;> first | exact BindsTo.of_eq rfl | exact binds_K (by k_in) rfl (by k_is) rfl rfl rfl); (case kB => exact rfl); (case kD => decide +kernel); (case c2 => exact rfl); (case c3 => exact rfl); (case c4 => exact rfl); k_whole)
   intro L' h' tk' cells' F' N' Y' B' X' T'
   k_cells Y'
   (try simp only [List.cons_append, List.nil_append] at N')
   (try dsimp only)
   (try k_fold)
   k_steps
   (rename Fr _ _ _ _ => wF)
   (rename News _ _ _ _ => wN)
   (rename _ < _ ∧ _ => hlt0)
   k_dflt (refine q_while (stored := [Str.ofString "r", Str.ofString "maxquotas", Str.ofString "nextrep"]) (P := RS ns house) (μ := fun rs => (house - rs.sum).toNat) wF wN (by assumption) (by assumption) (by assumption) (by assumption) (vR := .ref _) (vV := .ref lv) (by assumption) (by assumption) (by l_ints) (by rw [rep_flat]; exact RS_start ns hh) ?_)
   clear wF wN
   intro vs' rs n oM oU oQ oC vM vU vQ vC u h tk1 dM dU dQ dC dR dV hI1 hP F1 N1
   have hPl := hP.1
   have hPb := hP.2.1
   have hP0 := hP.2.2.1
   have hPh := hP.2.2.2.1
   try k_fold
   revert X'; revert T'; revert B'; revert hl; revert hI; revert hn; revert hn0; revert hh; revert hh7; revert hpos; revert hnn; revert hdp; revert hun; revert hlt0; revert hI1; revert hP; revert hPl; revert hPb; revert hP0; revert hPh; revert F1; revert N1; revert dM; revert dU; revert dQ; revert dC; revert dR; revert dV; revert F; revert N; revert hret
   kjx_bare
   intro hret N F dV dR dC dQ dU dM N1 F1 hPh hP0 hPb hPl hP hI1 hlt0 hun hdp hnn hpos hh7 hh hn0 hn hI hl B' T' X'
   k_steps
   focus
    (rename _ < house => hlt)
    (rename Fr _ _ _ _ => wF)
    k_dflt (refine' For_invVF wF (by rfl) (by rfl) ?_)
    k_steps
    (rename Fr _ _ _ _ => wF)
    (rename News _ _ _ _ => wN)
    (rename Obj.data _ = Data.cell (some (Value.int 1 _)) => dC0)
    k_dflt (refine q_for rfl hI1 wF wN dC0 (by omega) hPb ?_ ?_)
    · intro oC1 c1 r1 t01 t1 v1 h1 tk2 own ho dC1 hc1 hc2 hr1 hr2 hv1 F2 N2
      clear wF wN dC0
      try k_fold
      k_steps
      (rename Fr _ _ _ _ => zF)
      (rename News _ _ _ _ => zN)
      (rename Obj.data _ = Data.cell (some (Value.int _ _)) => zd)
      dsimp only [FPost]
      exact ⟨_, _, _, _, _, rfl, zF, zN, by rw [hv1]; exact zd, fun z hz => by simp only [if_neg hz]⟩
    · intro oC1 t1 u1 h1 tk2 dC1 hb1 hb2 F2 N2
      clear wF wN dC0
      try dsimp only
      k_steps
      (rename Fr _ _ _ _ => zF); revert zF
      (rename News _ _ _ _ => zN); revert zN
      (rename IsRange _ _ _ _ _ _ _ _ => zR); revert zR
      revert X'; revert T'; revert B'; revert hl; revert hI; revert hn; revert hn0; revert hh; revert hh7; revert hpos; revert hnn; revert hdp; revert hun; revert hlt0; revert hI1; revert hP; revert hPl; revert hPb; revert hP0; revert hPh; revert hlt; revert dM; revert dU; revert dQ; revert dC1; revert dR; revert dV; revert hb1; revert hb2
      kjx_bare
      intro hb2 hb1 dV dR dC1 dQ dU dM hlt hPh hP0 hPb hPl hP hI1 hlt0 hun hdp hnn hpos hh7 hh hn0 hn hI hl B' T' X' zR zN zF
      k_dflt (refine LCg.CompSrc.range (by rfl) (by k_asm) (by k_asm) (by assumption) (by first | exact small_one (by kcf_bnd) (by kcf_bnd) (by kcf_bnd) (by kcf_bnd) | decide) (by first | exact rangeSize_nat _ _ | rfl) (by first | exact Nat.le_of_ble_eq_true rfl | (rw [PySem.sizeLine_eq]; first | omega | ((simp only [List.size_toArray]); omega) | ((have hb9 := len_ints_list (by lay_of)); omega)) | size_fits) ?_)
      intro gh
      refine' kcf_range (fun k => qv ns rs k.toNat) (fun ck ct cI coI cC coC cD cm cys ch ctk cE clo chi chC chx cF cN coff cne cMark => ?_) ?_
      all_goals (try (simp only [LCg.Off3, and_true] at coff))
      focus
       have hgd := getD_bnd hPb ck.toNat
       try k_fold
       k_steps
       all_goals (refine kcf_el ?_ rfl rfl; rfl)
      unfold KPfDone
      intro ys1 hys1
      rw [rk_map ns.length (qv ns rs)] at hys1
      generalize hL1 : (List.range ns.length).map (qv ns rs) = L1 at hys1
      have hl1 : L1.length = ns.length := by rw [← hL1]; simp
      try dsimp only
      try k_fold
      k_steps
      rotate_left
      (exfalso; omega)
      (rename Fr _ _ _ _ => zF); revert zF
      (rename News _ _ _ _ => zN); revert zN
      (rename Obj.data _ = Data.cell (some (Value.ref _)) => dQ1); revert dQ1
      (rename _ ≠ _ ∧ _ => zO1); revert zO1
      revert X'; revert T'; revert B'; revert hl; revert hI; revert hn; revert hn0; revert hh; revert hh7; revert hpos; revert hnn; revert hdp; revert hun; revert hlt0; revert hI1; revert hP; revert hPl; revert hPb; revert hP0; revert hPh; revert hlt; revert dM; revert dU; revert dC1; revert dR; revert dV; revert hb1; revert hb2; revert hL1; revert hys1; revert hl1
      kjx_bare
      intro hl1 hys1 hL1 hb2 hb1 dV dR dC1 dU dM hlt hPh hP0 hPb hPl hP hI1 hlt0 hun hdp hnn hpos hh7 hh hn0 hn hI hl B' T' X' zO1 dQ1 zN zF
      k_dflt (refine LCg.CompSrc.base (by rfl) (by k_asm) (by k_asm) (by assumption) (by size_fits) ?_)
      intro gh
      refine' kcf_list (fun p => upq ns rs p) (by assumption) (fun ck ct cI coI cC coC cD cm cys ch ctk cE cmem chC chx cF cN coff cne cMark => ?_) ?_
      all_goals (try (simp only [LCg.Off3, and_true] at coff))
      focus
       have hc0 := hnn ck cmem
       have hc1 := mem_le_sum ns hnn ck cmem
       try k_fold
       k_steps
       all_goals (refine kcf_el ?_ rfl rfl; rfl)
      unfold KPfDone
      intro ys2 hys2
      generalize hL2 : List.map (fun p => upq ns rs p) ns = L2 at hys2
      have hl2 : L2.length = ns.length := by rw [← hL2]; simp
      try dsimp only
      try k_fold
      k_steps
      (rename Fr _ _ _ _ => zF); revert zF
      (rename News _ _ _ _ => zN); revert zN
      (rename IsRange _ _ _ _ _ _ _ _ => zR); revert zR
      (rename Obj.data _ = Data.cell (some (Value.ref _)) => dU1); revert dU1
      (rename _ ≠ _ ∧ _ => zO2); revert zO2
      revert X'; revert T'; revert B'; revert hl; revert hI; revert hn; revert hn0; revert hh; revert hh7; revert hpos; revert hnn; revert hdp; revert hun; revert hlt0; revert hI1; revert hP; revert hPl; revert hPb; revert hP0; revert hPh; revert hlt; revert dM; revert dC1; revert dR; revert dV; revert hL1; revert hys1; revert hl1; revert hL2; revert hys2; revert hl2; revert dQ1; revert zO1
      kjx_bare
      intro zO1 dQ1 hl2 hys2 hL2 hl1 hys1 hL1 dV dR dC1 dM hlt hPh hP0 hPb hPl hP hI1 hlt0 hun hdp hnn hpos hh7 hh hn0 hn hI hl B' T' X' zO2 dU1 zR zN zF
      k_dflt (refine LCg.CompSrc.range (by rfl) (by k_asm) (by k_asm) (by assumption) (by first | exact small_one (by kcf_bnd) (by kcf_bnd) (by kcf_bnd) (by kcf_bnd) | decide) (by first | exact rangeSize_nat _ _ | rfl) (by first | exact Nat.le_of_ble_eq_true rfl | (rw [PySem.sizeLine_eq]; first | omega | ((simp only [List.size_toArray]); omega) | ((have hb9 := len_ints_list (by lay_of)); omega)) | size_fits) ?_)
      intro gh
      refine' kcf_range (fun k => qq ns rs k.toNat) (fun ck ct cI coI cC coC cD cm cys ch ctk cE clo chi chC chx cF cN coff cne cMark => ?_) ?_
      all_goals (try (simp only [LCg.Off3, and_true] at coff))
      focus
       have hlt9 := idx_lt clo chi
       have e1 : L1.getD ck.toNat 0 = qv ns rs ck.toNat := by rw [← hL1]; exact getD_map_range _ _ _ hlt9
       have e2 : L2.getD ck.toNat 0 = upq ns rs (ns.getD ck.toNat 0) := by rw [← hL2]; exact getD_map _ _ hlt9
       try k_fold
       k_steps
       · (first | exact kcf_el (qq_hi e2 (by assumption)) rfl rfl | exact kcf_el (qq_hi e2 (by omega)) rfl rfl)
       · (first | exact kcf_el (qq_lo e1 e2 (by assumption)) rfl rfl | exact kcf_el (qq_lo e1 e2 (by omega)) rfl rfl)
      unfold KPfDone
      intro ys3 hys3
      rw [rk_map ns.length (qq ns rs)] at hys3
      generalize hL3 : (List.range ns.length).map (qq ns rs) = L3 at hys3
      have hl3 : L3.length = ns.length := by rw [← hL3]; simp
      try dsimp only
      try k_fold
      k_steps
      (rename _ ∈ L3 => hM1)
      (rename ∀ a, a ∈ L3 → a ≤ _ => hM2)
      have hpk := pick_walk hL3 hM1 hM2
      have e4 := hpk.2.1
      (rename Fr _ _ _ _ => zF); revert zF
      (rename News _ _ _ _ => zN); revert zN
      (rename Obj.data _ = Data.cell (some (Value.int _ _)) => dM1); revert dM1
      (rename Obj.data _ = Data.cell (some (Value.ref _)) => dQ2); revert dQ2
      (rename _ ≠ _ ∧ _ => zO3); revert zO3
      revert X'; revert T'; revert B'; revert hl; revert hI; revert hn; revert hn0; revert hh; revert hh7; revert hpos; revert hnn; revert hdp; revert hun; revert hlt0; revert hI1; revert hP; revert hPl; revert hPb; revert hP0; revert hPh; revert hlt; revert dC1; revert dR; revert dV; revert hL3; revert hys3; revert hl3; revert hpk; revert e4; revert dU1; revert zO1; revert zO2
      kjx_bare
      intro zO2 zO1 dU1 e4 hpk hl3 hys3 hL3 dV dR dC1 hlt hPh hP0 hPb hPl hP hI1 hlt0 hun hdp hnn hpos hh7 hh hn0 hn hI hl B' T' X' zO3 dQ2 dM1 zN zF
      k_dflt (refine LCt.Assign_ListComp_T (F₀ := by k_asm) (by rfl) (by with_unfolding_all rfl) (by with_unfolding_all rfl) (by decide) (by rfl) (by decide) (by rfl) (by rfl) (by rfl) ?_)
      k_steps
      obtain ⟨G, hG⟩ : ∃ G : List Int → Int → List Int, G = fun l k => if decide (qq ns rs k.toNat = qq ns rs (pick ns rs)) = true then l ++ [k] else l := ⟨_, rfl⟩
      have hGi : ∀ (l : List Int) (k : Int), qq ns rs k.toNat = qq ns rs (pick ns rs) → G l k = l ++ [k] := fun l k h => by rw [hG]; exact fil_in h
      have hGo : ∀ (l : List Int) (k : Int), qq ns rs k.toNat ≠ qq ns rs (pick ns rs) → G l k = l := fun l k h => by rw [hG]; exact fil_out h
      k_dflt (refine LCt.CompSrcT.range (by rfl) (by k_asm) (by k_asm) (by assumption) (by first | exact small_one (by kcf_bnd) (by kcf_bnd) (by kcf_bnd) (by kcf_bnd) | decide) (by first | exact rangeSize_nat _ _ | rfl) (by first | exact Nat.le_of_ble_eq_true rfl | (rw [PySem.sizeLine_eq]; first | omega | ((simp only [List.size_toArray]); omega) | ((have hb9 := len_ints_list (by lay_of)); omega)) | size_fits) ?_)
      intro gh
      refine' kci_range (G) (fun ck ct cI coI cC coC cD cm cys cl9 ch ctk cE clo chi cyI chC chx cF cN coff cne cMark => ?_) ?_ ?_
      all_goals (try (simp only [LCg.Off3, and_true] at coff))
      focus
       have hlt9 := idx_lt clo chi
       have e3 : L3.getD ck.toNat 0 = qq ns rs ck.toNat := by rw [← hL3]; exact getD_map_range _ _ _ hlt9
       clear hG
       try k_fold
       k_steps
       · exact ce_el cF cN (by simpa only [LCg.Off3, and_true] using coff) (hGi _ _ (by omega))
       · exact ce_no cF cN (by simpa only [LCg.Off3, and_true] using coff) (hGo _ _ (by omega))
      focus
       unfold KPfDone
       intro ys4 hys4 hln4
       rw [hG, fil_all ns.length (qq ns rs)] at hys4
       obtain ⟨t4, ht4⟩ := hpk.2.2
       rw [ht4, List.map_cons] at hys4
       have hpl := hpk.1
       have hpz : (((pick ns rs : Nat) : Int)).toNat = pick ns rs := Int.toNat_natCast _
       generalize hL4 : ((pick ns rs : Nat) : Int) :: List.map (fun (i : Nat) => (i : Int)) t4 = L4 at hys4
       have h40 : L4.getD (Int.toNat 0) 0 = ((pick ns rs : Nat) : Int) := by rw [← hL4]; rfl
       have hl4 : 1 ≤ L4.length := by rw [← hL4]; simp
       have hp0 : 0 ≤ L4.getD (Int.toNat 0) 0 := by omega
       have hp1 : L4.getD (Int.toNat 0) 0 < rs.length := by omega
       have hpt : (L4.getD (Int.toNat 0) 0).toNat = pick ns rs := by rw [h40]; exact hpz
       clear hL4 hG hGi hGo ht4
       try dsimp only
       try k_fold
       k_steps
       (rename IntsAre _ (List.set _ _ _) => zI)
       (rename Fr _ _ _ _ => zF)
       (rename News _ _ _ _ => zN)
       dsimp only [QPost]
       exact q_end zF zN (by kst_in) (by intro z hz; simp only [List.contains_cons, List.contains_nil, Bool.or_false, Bool.or_eq_false_iff, beq_eq_false_iff_ne, ne_eq] at hz; simp only [if_neg hz.1, if_neg hz.2.1, if_neg hz.2.2, List.contains_cons, List.contains_nil, beq_eq_false_iff_ne.mpr hz.1, beq_eq_false_iff_ne.mpr hz.2.1, beq_eq_false_iff_ne.mpr hz.2.2, Bool.or_false, Bool.false_eq_true, if_false]) dM1 dU1 dQ2 dC1 hP hlt hh7 hpl zI (by rw [hpt])
      rw [hG]; exact fil_grows (qq ns rs) _
   focus
    (rename Fr _ _ _ _ => zF)
    (rename News _ _ _ _ => zN)
    (rename ¬ _ < house => hge)
    refine leaveK_ zF zN ?_
    intro kF kN
    have e : rs.sum = house := by omega
    refine hret _ vs' n _ _ kF (fun p hp => ?_) (fun q hq => ?_) ?_
    · rcases List.mem_cons.mp hp with rfl | hp
      · exact kN _ (by k_mem)
      · exact ⟨zF.keep _ _ (N p hp).1, (N p hp).2⟩
    · intro e9
      have h1 := (zN _ (List.Mem.head _)).2.2
      have h2 := (N q hq).1
      rw [e9] at h2
      exact absurd (h2.symm.trans h1) (by simp)
    · rw [← e, ← hP.2.2.2.2]; exact hI1)
end Mine
end

-- W1
section
set_option maxHeartbeats 8000000
open PySem PySem.W PySem.Spec PySem.Calls PyProof.Rows
namespace Mine
section
variable {prog : Program} {w : World} {A₀ A : Around} {s : Shared} {base h₀ : Heap} {outer : List Env} {L : Addr} {m : Str → Option Value} {env : Env} {news : List (Addr × Obj)}
  {R : Result → Shared → Prop} {name qual : Str} {params : Arguments} {body : List Stmt} {scope : Scope} {dV kV doc pm cdv ct : Value} {an : Option Addr} {fo : Obj} {f : Addr} {args : Args} {binds : List (Str × Value)}
/-- a call of a def without cells; the callee sees the whole heap as its ground -/
theorem call_groundP {K : Frag} {p : Program} {loose : List Str} {mean : ExcName → Option Value} {mg mb : Str → Option Value} {oc : Value} {od : Option Addr} {osl : Array (Option Value)}
    (B : Below A₀ base outer h₀) (F : Fr h₀ L s.heap m) (X₀ : K.In h₀) (T : Top p loose mean mg mb h₀) (hA : A.frames = some (env :: outer)) (hf : env.frame = some L) (hke : env.scope.kind = .function)
    (ho : K.lookup f = some ⟨oc, od, .func (fnOf name qual params body scope dV kV doc pm an cdv ct), osl⟩) (hcd : codeIn K cdv qual = true) (hroom : A.depth < recursionLimit)
    (hbind : BindsTo s (fnOf name qual params body scope dV kV doc pm an cdv ct) args binds) (hloc : ∀ y ∈ binds, scope.names.lookup y.1 = some .local)
    (h : ∀ L' h₁, Fr s.heap L' h₁ (fun y => binds.reverse.lookup y) → News s.heap L' h₁ [] → Below A base (env :: outer) s.heap → K.In s.heap → Top p loose mean mg mb s.heap →
      wpAny (model prog w) (A.deeper (envOf qual scope L' f cdv)) (execs body (envOf qual scope L' f cdv))
        (fun fl s' => LeaveK h₀ L m s.heap R (match fl with | .ret v => v | _ => .none) s')
        (fun e s' => wpAny (model prog w) (A.deeper (envOf qual scope L' f cdv)) (leaving (envOf qual scope L' f cdv) e) (fun _ s'' => R (.error e) s'') (fun e' s'' => R (.error e') s'') s')
        { s with heap := h₁, toks := s.toks + binds.length })
    (hco : scope.isCoroutine = false) (hgen : scope.isGenerator = false) (hk : scope.kind = .function) (hcell : ∀ x ∈ scope.names, x.2 ≠ .cell) : codeAny (model prog w) A (.call (.ref f) args) R s := by
  have N0 : News h₀ L s.heap [] := News.nil
  obtain ⟨FG, BG, st, lv⟩ := groundX (R := R) B F N0 hA hf hke
  refine codeAny_call_def (fd := fnX name qual params body scope [] dV kV doc pm an cdv ct) (body := body) (binds := binds) hroom ((X₀.keeps F.keep) _ _ ho) rfl (T.nolimit.keeps F.keep) (codeRec_of (X₀.keeps F.keep) hcd) rfl hbind hcell hloc (fun h₁ hns hk₁ => ?_) hco hgen hk
  exact wpAny_mono (h s.heap.objs.size h₁ ⟨hns, fun b o e => hk₁ b o e, Nat.le_refl _⟩ News.nil BG (X₀.keeps F.keep) (T.keeps F.keep)) (fun fl s' hl => lv _ _ hl) fun _ _ y => y
end
section
variable {prog : Program} {w : World} {A : Around} {E : Value → Shared → Prop} {Q : Flow → Shared → Prop} {s : Shared} {env : Env} {g : Heap}
def WEnd (g : Heap) (L : Addr) (s : Shared) (x y₀ : Str) (stored : List Str) (m₀ : Str → Option Value) (own : List (Addr × Obj)) (v : Bool) (s₂ : Shared) : Prop :=
  ∃ (h' : Heap) (tk' : Nat) (m' : Str → Option Value) (all : List (Addr × Obj)), s₂ = { s with heap := h', toks := tk' } ∧ Fr g L h' m' ∧ News g L h' all ∧ (∀ p ∈ own, p ∈ all) ∧ m' y₀ = some (.bool v) ∧ (∀ z, z ≠ x → z ≠ y₀ → stored.contains z = false → m' z = m₀ z)
def WPost (g : Heap) (L : Addr) (s : Shared) (x y₀ : Str) (stored : List Str) (m₀ : Str → Option Value) (own : List (Addr × Obj)) (Q : Flow → Shared → Prop) (v : Bool) (f : Flow) (s₂ : Shared) : Prop :=
  match f with
  | .ret v => Q (.ret v) s₂
  | .brk => Q .next s₂
  | _ => WEnd g L s x y₀ stored m₀ own v s₂
theorem all_snoc (ok : Nat → Bool) (l : List Int) (k : Int) : (l ++ [k]).all (fun i => ok i.toNat) = (l.all (fun i => ok i.toNat) && ok k.toNat) := by simp
theorem w_for {x y₀ : Str} {body : List Stmt} {m₀ : Str → Option Value} {r : Addr} {b₀ : Int} {t₀ u₀ v₀ : Tok} {n : Nat} (stored : List Str) (ok : Nat → Bool)
    (hh : A.handled = none) (hr : IsRange s.heap r 0 b₀ 1 t₀ u₀ v₀) (hsmall : Builtin.Range.small 0 b₀ 1 = true) (hn : Builtin.Range.rangeSize 0 b₀ 1 = (n : Int)) (hxy : y₀ ≠ x)
    (F : Fr g env.locals s.heap m₀) (hw : m₀ y₀ = some (.bool true))
    (turn : ∀ (b : Bool) (k : Int) (t : Tok) (u : Str → Option Value) (h : Heap) (tk : Nat) (own : List (Addr × Obj)) (v : Bool), 0 ≤ k → k < (n : Int) → v = (b && ok k.toNat) → OwnOff own [] →
      Fr g env.locals h (fun y => if y = x then some (.int k t) else if y = y₀ then some (.bool b) else if stored.contains y then u y else m₀ y) → News g env.locals h own →
      wpAny (model prog w) A (execs body env) (WPost g env.locals { s with heap := h, toks := tk } x y₀ stored m₀ own Q v) E { s with heap := h, toks := tk })
    (done : ∀ (b : Bool) (u : Str → Option Value) h tk, b = (List.range n).all ok → Fr g env.locals h (fun y => if y = x then u y else if y = y₀ then some (.bool b) else if stored.contains y then u y else m₀ y) → Q .next { s with heap := h, toks := tk }) :
    wpAny (model prog w) A (pyIter (.ref r)) (fun it s₂ => LoopAtV prog w A g env x body Q E it s₂) E s := by
  refine kst_range (σ := Bool) (fun _ => []) (fun c => [(y₀, .bool c)]) (fun _ => True) stored (fun pre c => c = pre.all (fun i => ok i.toNat)) true hh hr hsmall hn F News.nil trivial (fun p hp => by rw [List.mem_singleton.mp hp]; exact hw) rfl ?_ ?_
  · rintro c pre k t u h tk own hk hlt ho _ hc F' N'
    refine wpAny_mono (turn c k t u h tk own ((pre ++ [k]).all fun i => ok i.toNat) (by omega) (by omega) (by rw [all_snoc, hc]) ho (by simpa only [kstB] using F') (by simpa using N')) (fun f s₂ y => ?_) fun _ _ y => y
    have up : WEnd g env.locals { s with heap := h, toks := tk } x y₀ stored m₀ own ((pre ++ [k]).all fun i => ok i.toNat) s₂ →
        InvEndN g env.locals (KstS (fun _ : Bool => []) (fun c => [(y₀, .bool c)]) (fun _ => True) x stored m₀ (fun pre c => c = pre.all (fun i => ok i.toNat)) (pre ++ [k])) own [] { s with heap := h, toks := tk } s₂ := by
      rintro ⟨h', tk', m', all, rfl, F', N', ho', hv, hm⟩
      exact InvEndN.intro F' N' ⟨_, rfl, trivial, (fun p hp => by rw [List.mem_singleton.mp hp]; exact hv), (fun z hz hz2 hz3 => hm z hz (hz2 _ (.head _)) hz3), rfl⟩ rfl (fun p hp => nomatch hp) ho'
    cases f with
    | ret v => exact y
    | brk => exact y
    | next => exact up y
    | cont => exact up y
  · rintro c u h tk _ hc F' N'
    refine done c u h tk ?_ (by simpa only [kstB] using F')
    rw [hc, rangeKs, List.all_map]
    congr 1
    funext i
    simp
end
end Mine
end

-- W2
section
open PySem PySem.W PySem.Spec PySem.Calls PyProof.Rows
namespace Mine
local macro_rules | `(tactic| k_steps) => `(tactic| repeat' ((fail_if_success (with_reducible show wpAny _ _ (exec (Stmt.While _ _ _ _) _) _ _ _)); (fail_if_success (with_reducible show wpAny _ _ (exec (Stmt.For _ _ _ _ _) _) _ _ _)); (fail_if_success (with_reducible show wpAny _ _ (pyIter (Value.ref _)) (fun it s₂ => LoopAtV _ _ _ _ _ _ _ _ _ it s₂) _ _)); (fail_if_success (with_reducible show LCg.CompSrc _ _ _ _ _ _ _ _ _ _ _ _ _ _)); (fail_if_success (with_reducible show LCt.CompSrcT _ _ _ _ _ _ _ _ _ _ _ _ _ _ _)); (fail_if_success (with_reducible show KCfEl _ _ _ _)); (fail_if_success (with_reducible show KPfDone _)); (fail_if_success (with_reducible show LCg.CompEnd _ _ _ _ _ _ _ _ _ _ _ (fun _ _ => KCiEl _ _ _ _ _) _ _)); (fail_if_success (with_reducible show LCg.CompEnd _ _ _ _ _ _ _ _ _ _ _ (fun _ _ => KCiNo _ _ _ _) _ _)); (fail_if_success (with_reducible show LeaveK _ _ _ _ _ _ _)); (fail_if_success (with_reducible show wpAny _ _ (exec (Stmt.Assign _ (Expr.ListComp _ [{ target := _, iter := _, ifs := _ :: _, is_async := _ }] _ _) _) _) _ _ _)); first | (k_unfold; (try dsimp only)) | (k_end; wrow_close) | walk1 | (dsimp only; walk1) | (leave1; walk_say "STEP leave1"; try dsimp only) | fail "no step"))
local macro_rules | `(tactic| walk_at "binaryOp FloorDiv int int") => `(tactic| ((refine floordiv_int ?nz ?_ (Or.inl ?np)); (case np => first | exact noPylong_neg (by omega) (by omega) (by omega) (by omega) | exact noPylong_pos (by omega) (by omega) (by omega) (by omega)); (case nz => omega)))
theorem getD_mem_bnd {ns : List Int} (h : ∀ n ∈ ns, 0 ≤ n) (k : Nat) (hk : k < ns.length) : 0 ≤ ns.getD k 0 ∧ ns.getD k 0 ≤ ns.sum := by
  have hm : ns.getD k 0 ∈ ns := by
    rw [List.getD_eq_getElem?_getD, List.getElem?_eq_getElem hk]; exact List.getElem_mem hk
  exact ⟨h _ hm, mem_le_sum ns h _ hm⟩
theorem okq_yes {ns ms : List Int} {k : Nat} {b : Bool} (h1 : ms.getD k 0 ≤ -((-(ns.getD k 0) * ms.sum).fdiv ns.sum)) (h2 : (ns.getD k 0 * ms.sum).fdiv ns.sum ≤ ms.getD k 0) : (b && okq ns ms k) = b := by
  rw [okq, decide_eq_true h1, decide_eq_true h2]; simp
theorem okq_no {ns ms : List Int} {k : Nat} {b : Bool} (h : ¬ (ms.getD k 0 ≤ -((-(ns.getD k 0) * ms.sum).fdiv ns.sum)) ∨ ¬ ((ns.getD k 0 * ms.sum).fdiv ns.sum ≤ ms.getD k 0)) : (b && okq ns ms k) = false := by
  rw [okq]
  rcases h with h | h <;> rw [decide_eq_false h] <;> simp
theorem idx_ltN {n : Nat} {k : Int} (h0 : 0 ≤ k) (h1 : k < (n : Int)) : k.toNat < n := by omega
set_option maxHeartbeats 1500000 in
theorem within_walk {w : World} {p : Program} {loose : List Str} {mean : ExcName → Option Value} {mg mb : Str → Option Value}
  {dp un : Nat} {gd : Option (List Code)} {cn : Str} {cs : Scope} {a : Addr} {ccd : Value} {cl : List (Str × Addr)} {outer : List Env} {A₀ : Around} {base h₀ : Heap} {L : Addr} {m : Str → Option Value} {news : List (Addr × Obj)} {s : Shared}
  {lv lm : Addr} {vs us : List Value} {ns ms : List Int} (hpos : 0 < ns.sum) (hnn : ∀ n ∈ ns, 0 ≤ n)
    {Q E : Value → Shared → Prop}
   (B : Below A₀ base outer h₀) (F : Fr h₀ L s.heap m) (X : (hd.heap_39 w.params).In h₀) (N : News h₀ L s.heap news) (T : Top p loose mean mg mb h₀) (hck : cs.kind = .function)
   (hl : s.heap.IsList lv vs.toArray) (hI : IntsAre vs ns) (hl2 : s.heap.IsList lm us.toArray) (hI2 : IntsAre us ms) (hn : ns.length ≤ 5) (hmn : ms.length = ns.length)
   (hs0 : 0 ≤ ms.sum) (hs7 : ms.sum ≤ 7) (hdp : dp + 1 < recursionLimit)
   (hret : ∀ h' tk', Fr h₀ L h' m → News h₀ L h' news → Q (.bool ((List.range ns.length).all (okq ns ms))) { s with heap := h', toks := tk' }) :
   wpAny (model PySem.Challenge.rw_jg0014_01.row.prog w) (ktrTop dp un gd cn cs L a ccd cl outer) (call (.ref 49) [.ref lv, .ref lm]) Q E s := by
  w_strict (
   revert X
   k_fill
   intro X
   refine wpAny_call ?_
   k_dflt (refine' call_groundP ?k1 ?k2 ?k3 ?k5 ?kA ?kF ?kK ?k6 ?k7 ?k8 ?k9 ?kB ?_ ?c2 ?c3 ?c4 ?c5; (case kA => exact rfl); (case kF => exact rfl); (case kK => assumption); (case k1 => k_asm); (case k2 => k_asm); (case k3 => k_asm); (case k5 => k_asm); (case k6 => k_is); (case k7 => k_is); (case k8 => ktr_room); (case k9 => first | exact BindsTo.of_eq rfl | exact binds_K (by k_in) rfl (by k_is) rfl rfl rfl); (case kB => exact locs rfl); (case c2 => exact rfl); (case c3 => exact rfl); (case c4 => exact rfl); (case c5 => decide); k_whole)
   intro L' h' F' N' B' X' T'
   (try dsimp only)
   (try k_fold)
   revert F'; revert N'; revert B'; revert X'; revert T'; revert hl; revert hI; revert hl2; revert hI2; revert hn; revert hmn; revert hs0; revert hs7; revert hpos; revert hnn; revert F; revert N; revert hret
   kjx_bare
   intro hret N F hnn hpos hs7 hs0 hmn hn hI2 hl2 hI hl T' X' B' N' F'
   k_steps
   (rename Fr _ _ _ _ => wF)
   k_dflt (refine' For_invVF wF (by rfl) (by rfl) ?_)
   k_steps
   (rename Fr _ _ _ _ => wF)
   (rename IsRange _ _ _ _ _ _ _ _ => wR)
   k_dflt (refine w_for (y₀ := Str.ofString "within") [Str.ofString "upperquota", Str.ofString "lowerquota"] (okq ns ms) rfl wR (by first | exact small_one (by kcf_bnd) (by kcf_bnd) (by kcf_bnd) (by kcf_bnd) | decide) (by first | exact rangeSize_nat _ _ | rfl) (by decide) wF (by rfl) ?_ ?_)
   · intro b k t u h tk own v hk0 hk1 hv ho F2 N2
     clear wF wR
     have hkl := idx_ltN hk0 hk1
     have hb := getD_mem_bnd hnn k.toNat (by omega)
     try k_fold
     k_steps
     · have hv9 : v = false := hv.trans (okq_no (.inl (by omega)))
       (rename Fr _ _ _ _ => zF)
       (rename News _ _ _ _ => zN)
       dsimp only [WPost]
       exact ⟨_, _, _, _, rfl, zF, zN, fun _ h => h, by rw [hv9]; rfl, (by intro z g1 g2 g3; have g4 := g3; simp only [List.contains_cons, List.contains_nil, Bool.or_false, Bool.or_eq_false_iff, beq_eq_false_iff_ne, ne_eq] at g4; simp only [g1, g2, g3, g4.1, g4.2, if_false, Bool.false_eq_true])⟩
     · have hv9 : v = false := hv.trans (okq_no (.inl (by omega)))
       (rename Fr _ _ _ _ => zF)
       (rename News _ _ _ _ => zN)
       dsimp only [WPost]
       exact ⟨_, _, _, _, rfl, zF, zN, fun _ h => h, by rw [hv9]; rfl, (by intro z g1 g2 g3; have g4 := g3; simp only [List.contains_cons, List.contains_nil, Bool.or_false, Bool.or_eq_false_iff, beq_eq_false_iff_ne, ne_eq] at g4; simp only [g1, g2, g3, g4.1, g4.2, if_false, Bool.false_eq_true])⟩
     · have hv9 : v = false := hv.trans (okq_no (.inr (by omega)))
       (rename Fr _ _ _ _ => zF)
       (rename News _ _ _ _ => zN)
       dsimp only [WPost]
       exact ⟨_, _, _, _, rfl, zF, zN, fun _ h => h, by rw [hv9]; rfl, (by intro z g1 g2 g3; have g4 := g3; simp only [List.contains_cons, List.contains_nil, Bool.or_false, Bool.or_eq_false_iff, beq_eq_false_iff_ne, ne_eq] at g4; simp only [g1, g2, g3, g4.1, g4.2, if_false, Bool.false_eq_true])⟩
     · have hv9 : v = b := hv.trans (okq_yes (by omega) (by omega))
       (rename Fr _ _ _ _ => zF)
       (rename News _ _ _ _ => zN)
       dsimp only [WPost]
       exact ⟨_, _, _, _, rfl, zF, zN, fun _ h => h, by rw [hv9]; rfl, (by intro z g1 g2 g3; have g4 := g3; simp only [List.contains_cons, List.contains_nil, Bool.or_false, Bool.or_eq_false_iff, beq_eq_false_iff_ne, ne_eq] at g4; simp only [g1, g2, g3, g4.1, g4.2, if_false, Bool.false_eq_true])⟩
   · intro b u h tk hb F2
     clear wF wR
     rw [show ((ns.length : Int) - 0).toNat = ns.length by omega] at hb
     k_steps
     try dsimp only
     k_steps
     (rename Fr _ _ _ _ => zF)
     refine leaveK_ zF News.nil ?_
     intro kF kN
     rw [hb]
     exact hret _ _ kF (fun p hp => ⟨zF.keep _ _ (N p hp).1, (N p hp).2⟩))
end Mine
end

-- L1
section
set_option maxHeartbeats 8000000
open PySem PySem.W PySem.Spec PySem.Calls PyProof.Rows
namespace Mine
section
variable {prog : Program} {w : World} {A : Around} {E : Value → Shared → Prop} {Q : Flow → Shared → Prop} {s : Shared} {env : Env} {h₀ : Heap} {x : Str} {body : List Stmt}
/-- a turn's end, for a loop over a range whose ledger may change its addresses -/
def REnd (h₀ : Heap) (L : Addr) (s : Shared) (I : Addr) (oI : Obj) (J : (Str → Option Value) → List (Addr × Obj) → Prop) (s₂ : Shared) : Prop :=
  ∃ (h' : Heap) (tk' : Nat) (m' : Str → Option Value) (nx : List (Addr × Obj)), s₂ = { s with heap := h', toks := tk' } ∧ Fr h₀ L h' m' ∧ News h₀ L h' ((I, oI) :: nx) ∧ (∀ p ∈ nx, p.1 ≠ I) ∧ J m' nx
def RPost (h₀ : Heap) (L : Addr) (s : Shared) (I : Addr) (oI : Obj) (J : (Str → Option Value) → List (Addr × Obj) → Prop) (Q : Flow → Shared → Prop) (f : Flow) (s₂ : Shared) : Prop :=
  match f with
  | .ret v => Q (.ret v) s₂
  | .brk => Q .next s₂
  | _ => REnd h₀ L s I oI J s₂
theorem range_loop {r : Addr} {a₀ b₀ : Int} {t₀ u₀ v₀ : Tok} {n : Nat} {m₀ : Str → Option Value} {news : List (Addr × Obj)} (J : Nat → (Str → Option Value) → List (Addr × Obj) → Prop)
    (hh : A.handled = none) (hr : IsRange s.heap r a₀ b₀ 1 t₀ u₀ v₀) (hsmall : Builtin.Range.small a₀ b₀ 1 = true) (hn : Builtin.Range.rangeSize a₀ b₀ 1 = (n : Int)) (F : Fr h₀ env.locals s.heap m₀) (N : News h₀ env.locals s.heap news) (hj : J 0 m₀ news)
    (turn : ∀ (i : Nat) (k : Int) (m₁ : Str → Option Value) (nx : List (Addr × Obj)) (t : Tok) (h : Heap) (tk : Nat) (I : Addr) (oI : Obj), i < n → k = a₀ + (i : Int) → J i m₁ nx → (∀ p ∈ nx, p.1 ≠ I) →
      Fr h₀ env.locals h (fun y => if y = x then some (.int k t) else m₁ y) → News h₀ env.locals h ((I, oI) :: nx) →
      wpAny (model prog w) A (execs body env) (RPost h₀ env.locals { s with heap := h, toks := tk } I oI (J (i + 1)) Q) E { s with heap := h, toks := tk })
    (done : ∀ (m₁ : Str → Option Value) (nx : List (Addr × Obj)) (h : Heap) (tk : Nat), J n m₁ nx → Fr h₀ env.locals h m₁ → News h₀ env.locals h nx → Q .next { s with heap := h, toks := tk }) :
    wpAny (model prog w) A (pyIter (.ref r)) (fun it s₂ => LoopAtV prog w A h₀ env x body Q E it s₂) E s := by
  refine wpAny_pyIter_range hr hsmall ?_
  have W : Walks prog w A s.heap.objs.size [s.heap.objs.size] [s.heap.objs.size] n (fun i v => i < n ∧ ∃ t, v = .int (a₀ + i * 1) t)
      (fun i h => IsRangeIter h s.heap.objs.size (a₀ + (i : Nat) * 1) ((n : Int) - (i : Nat)) 1) := (Walks.range hh _ a₀ 1 n).bound
  have hnsz : ∀ p ∈ news, p.1 ∉ [s.heap.objs.size] := fun p hp hI => absurd (Heap.lt_size (N p hp).1) ((List.mem_singleton.mp hI) ▸ Nat.lt_irrefl _)
  refine ⟨_, _, _, n, _, _, m₀, news, J, rfl, W, ?_, ?_, hnsz, ?_, F.push _, (fun p hp => ⟨Heap.get?_push_of_some _ (N p hp).1, (N p hp).2⟩), hj, ?_, ?_⟩
  · intro hm
    exact absurd F.ns.lt ((List.mem_singleton.mp hm) ▸ Nat.lt_irrefl _)
  · intro b hb
    rw [List.mem_singleton.mp hb]
    exact next_is_new F
  · show IsRangeIter _ _ _ _ _
    rw [hn]
    simpa using Heap.get?_push_size _ rfl
  · rintro i v m₁ news₁ s₁ own ⟨hh', tk', rfl⟩ hin ⟨_, t, rfl⟩ hJ hoff hown hget hall hst F₁ N₁
    have hI0 : h₀.get? s.heap.objs.size = none := next_is_new F
    have hI1 : ∃ o, hh'.get? s.heap.objs.size = some o := ⟨_, hst⟩
    obtain ⟨oI, hI2⟩ := hI1
    have hIo := hall _ (.head _) hI0 oI hI2
    have e1 : a₀ + (i : Int) * 1 = a₀ + (i : Int) := by omega
    rw [e1] at F₁
    have hne : ∀ p ∈ news₁, p.1 ≠ s.heap.objs.size := fun p hp e => hoff p hp (by rw [e]; exact .head _)
    have hone : ∀ p ∈ own, p = (s.heap.objs.size, oI) := by
      rintro ⟨b, o⟩ hp
      have h1 : b = s.heap.objs.size := List.mem_singleton.mp (hown _ hp)
      subst h1
      have h2 := hget _ hp
      rw [hI2] at h2
      rw [Option.some.inj h2]
    refine wpAny_mono (turn i _ m₁ news₁ t hh' tk' s.heap.objs.size oI hin rfl hJ hne F₁ (fun p hp => N₁ p ?_)) (fun f s₂ y => ?_) fun _ _ e => e
    · rcases List.mem_cons.mp hp with rfl | hp
      · exact List.mem_append_left _ hIo
      · exact List.mem_append_right _ hp
    have fin : REnd h₀ env.locals { s with heap := hh', toks := tk' } s.heap.objs.size oI (J (i + 1)) s₂ → LoopStepU h₀ env.locals [s.heap.objs.size] own (J (i + 1)) { s with heap := hh', toks := tk' } .next s₂ := by
      rintro ⟨h', tk, m', nx, e, F', N', hne', hJ'⟩
      refine ⟨rfl, h', tk, m', nx, e, F', fun p hp => ?_, fun p hp hq => hne' p hp (List.mem_singleton.mp hq), hJ'⟩
      rcases List.mem_append.mp hp with hp | hp
      · rw [hone p hp]; exact N' _ (.head _)
      · exact N' _ (.tail _ hp)
    cases f with
    | ret v => exact .ret y
    | brk => exact .brk y
    | next => exact .next (fin y)
    | cont => exact .cont (fin y)
  · rintro h' tk m' news' F' N' _ hJ
    exact done m' news' h' tk hJ F' N'
end
end Mine
end

-- L2
section
set_option maxHeartbeats 8000000
open PySem PySem.W PySem.Spec PySem.Calls PyProof.Rows
namespace Mine
theorem abs_len (l : List Int) (n : Nat) : (List.map (fun a => if a < 0 then -a else a) (List.take (min 6 n - 1) l)).length ≤ 5 := by
  rw [List.length_map, List.length_take]; omega
theorem abs_nn (l : List Int) : ∀ x ∈ List.map (fun a : Int => if a < 0 then -a else a) l, 0 ≤ x := by
  intro x hx
  obtain ⟨a, _, rfl⟩ := List.mem_map.mp hx
  split <;> omega
theorem sum_nn : ∀ {l : List Int}, (∀ x ∈ l, 0 ≤ x) → 0 ≤ l.sum
  | [], _ => by simp
  | a :: l, h => by
    have h1 := h a (.head _)
    have h2 := sum_nn (l := l) fun x hx => h x (.tail _ hx)
    rw [List.sum_cons]; omega
theorem set_one {l : List Int} (h : ∀ x ∈ l, 0 ≤ x) (h1 : 1 ≤ l.length) (h0 : l.sum = 0) : (∀ x ∈ l.set 0 1, 0 ≤ x) ∧ 0 < (l.set 0 1).sum := by
  cases l with
  | nil => simp at h1
  | cons a l =>
    rw [List.set_cons_zero]
    have h2 := h a (.head _)
    have h3 := sum_nn (l := l) fun x hx => h x (.tail _ hx)
    rw [List.sum_cons] at h0
    refine ⟨fun x hx => ?_, by rw [List.sum_cons]; omega⟩
    rcases List.mem_cons.mp hx with rfl | hx
    · decide
    · exact h x (.tail _ hx)
/-- a meeting point: the ways of a statement come together -/
def Mid (P : Heap → Prop) (s : Shared) (f : Flow) (s' : Shared) : Prop := f = .next ∧ ∃ h' tk', s' = { s with heap := h', toks := tk' } ∧ P h'
theorem Mid.intro {P : Heap → Prop} {s : Shared} {h' : Heap} {tk' : Nat} (h : P h') : Mid P s .next { s with heap := h', toks := tk' } := ⟨rfl, h', tk', rfl, h⟩
section
variable {M : Model} {A : Around} {E : Value → Shared → Prop} {Q : Flow → Shared → Prop} {s : Shared} {t : Sem Flow} {h₀ : Heap} {L : Addr} {m₀ : Str → Option Value} {news : List (Addr × Obj)}
theorem mid_cut (P : Heap → Prop) (h1 : wpAny M A t (Mid P s) E s) (h2 : ∀ h' tk', P h' → Q .next { s with heap := h', toks := tk' }) : wpAny M A t Q E s := by
  refine wpAny_mono h1 (fun f s' h => ?_) fun _ _ e => e
  obtain ⟨rfl, h', tk', rfl, hP⟩ := h
  exact h2 h' tk' hP
def PHead (h₀ : Heap) (L : Addr) (x : Str) (m₀ : Str → Option Value) (news : List (Addr × Obj)) (h' : Heap) : Prop :=
  ∃ v tk, Fr h₀ L h' (fun y => if y = x then some (.int v tk) else m₀ y) ∧ News h₀ L h' news
theorem mid_head (F : Fr h₀ L s.heap m₀) (N : News h₀ L s.heap news) (x : Str) (h1 : wpAny M A t (Mid (PHead h₀ L x m₀ news) s) E s)
    (h2 : ∀ v tk h' tk', Fr h₀ L h' (fun y => if y = x then some (.int v tk) else m₀ y) → News h₀ L h' news → Q .next { s with heap := h', toks := tk' }) : wpAny M A t Q E s :=
  let _ := F; let _ := N
  mid_cut _ h1 fun h' tk' ⟨v, tk, F', N'⟩ => h2 v tk h' tk' F' N'
def PVotes (pos : Bool) (h₀ : Heap) (L : Addr) (m₀ : Str → Option Value) (c1 c2 c3 : Addr) (o2 o3 : Obj) (h' : Heap) : Prop :=
  ∃ lv vs ns n o, Fr h₀ L h' m₀ ∧ News h₀ L h' [(lv, listOf vs.toArray n), (c3, o3), (c2, o2), (c1, o)] ∧ o.data = .cell (some (.ref lv)) ∧ IntsAre vs ns ∧ 1 ≤ ns.length ∧ ns.length ≤ 5 ∧ (∀ n ∈ ns, 0 ≤ n) ∧ (@Ne Nat lv c3 ∧ @Ne Nat lv c2 ∧ @Ne Nat lv c1) ∧ (pos = true → 0 < ns.sum)
theorem mid_votes {c1 c2 c3 : Addr} {o1 o2 o3 : Obj} (F : Fr h₀ L s.heap m₀) (N : News h₀ L s.heap [(c3, o3), (c2, o2), (c1, o1)]) (h1 : wpAny M A t (Mid (PVotes false h₀ L m₀ c1 c2 c3 o2 o3) s) E s)
    (h2 : ∀ lv vs ns n o h' tk', Fr h₀ L h' m₀ → News h₀ L h' [(lv, listOf vs.toArray n), (c3, o3), (c2, o2), (c1, o)] → o.data = .cell (some (.ref lv)) → IntsAre vs ns → 1 ≤ ns.length → ns.length ≤ 5 → (∀ n ∈ ns, 0 ≤ n) → (@Ne Nat lv c3 ∧ @Ne Nat lv c2 ∧ @Ne Nat lv c1) → Q .next { s with heap := h', toks := tk' }) : wpAny M A t Q E s :=
  let _ := F; let _ := N
  mid_cut _ h1 fun h' tk' ⟨lv, vs, ns, n, o, F', N', d, hI, h1, h5, hn, hc, _⟩ => h2 lv vs ns n o h' tk' F' N' d hI h1 h5 hn hc
theorem mid_pos {c1 c2 c3 lv : Addr} {o1 o2 o3 ol : Obj} (F : Fr h₀ L s.heap m₀) (N : News h₀ L s.heap [(lv, ol), (c3, o3), (c2, o2), (c1, o1)]) (h1 : wpAny M A t (Mid (PVotes true h₀ L m₀ c1 c2 c3 o2 o3) s) E s)
    (h2 : ∀ lv vs ns n o h' tk', Fr h₀ L h' m₀ → News h₀ L h' [(lv, listOf vs.toArray n), (c3, o3), (c2, o2), (c1, o)] → o.data = .cell (some (.ref lv)) → IntsAre vs ns → 1 ≤ ns.length → ns.length ≤ 5 → (∀ n ∈ ns, 0 ≤ n) → (@Ne Nat lv c3 ∧ @Ne Nat lv c2 ∧ @Ne Nat lv c1) → 0 < ns.sum → Q .next { s with heap := h', toks := tk' }) : wpAny M A t Q E s :=
  let _ := F; let _ := N
  mid_cut _ h1 fun h' tk' ⟨lv, vs, ns, n, o, F', N', d, hI, h1, h5, hn, hc, hp⟩ => h2 lv vs ns n o h' tk' F' N' d hI h1 h5 hn hc (hp rfl)
end
end Mine
end

-- L4
section
set_option maxHeartbeats 8000000
open PySem PySem.W PySem.Spec PySem.Calls PyProof.Rows
namespace Mine
def Far (b lv c3 c2 c1 : Addr) : Prop := @Ne Nat b lv ∧ @Ne Nat b c3 ∧ @Ne Nat b c2 ∧ @Ne Nat b c1
def HFrame (y₀ : Str) (stored : List Str) (m₀ : Str → Option Value) (b : Addr) (m' : Str → Option Value) : Prop :=
  m' y₀ = some (.ref b) ∧ ∀ z, z ≠ y₀ → stored.contains z = false → m' z = m₀ z
theorem HFrame.eq {y₀ : Str} {stored : List Str} {m₀ m' : Str → Option Value} {b : Addr} (h : HFrame y₀ stored m₀ b m') : m' = fun y => if y = y₀ then some (.ref b) else if stored.contains y then m' y else m₀ y := by
  funext y
  by_cases h1 : y = y₀
  · rw [if_pos h1, h1]; exact h.1
  · rw [if_neg h1]
    cases h2 : stored.contains y with
    | true => simp
    | false => simp only [Bool.false_eq_true, if_false]; exact h.2 y h1 h2
section
variable {prog : Program} {w : World} {A : Around} {E : Value → Shared → Prop} {Q : Flow → Shared → Prop} {s : Shared} {env : Env} {g : Heap}
def HEnd (g : Heap) (L : Addr) (s : Shared) (y₀ : Str) (stored : List Str) (m₀ : Str → Option Value) (I : Addr) (oI : Obj) (lv c3 c2 c1 : Addr) (ol oM oT oV : Obj) (T : List Int) (s₂ : Shared) : Prop :=
  ∃ (h' : Heap) (tk' : Nat) (m' : Str → Option Value) (b : Addr) (us : List Value) (nb : Nat), s₂ = { s with heap := h', toks := tk' } ∧ Fr g L h' m' ∧
    News g L h' [(I, oI), (b, listOf us.toArray nb), (lv, ol), (c3, oM), (c2, oT), (c1, oV)] ∧ @Ne Nat b I ∧ Far b lv c3 c2 c1 ∧ IntsAre us T ∧ HFrame y₀ stored m₀ b m'
def HPost (g : Heap) (L : Addr) (s : Shared) (y₀ : Str) (stored : List Str) (m₀ : Str → Option Value) (I : Addr) (oI : Obj) (lv c3 c2 c1 : Addr) (ol oM oT oV : Obj) (Q : Flow → Shared → Prop) (T : List Int) (f : Flow) (s₂ : Shared) : Prop :=
  match f with
  | .ret v => Q (.ret v) s₂
  | .brk => Q .next s₂
  | _ => HEnd g L s y₀ stored m₀ I oI lv c3 c2 c1 ol oM oT oV T s₂
theorem h_loop {x y₀ : Str} {body : List Stmt} {r : Addr} {t₀ u₀ v₀ : Tok} {m₀ : Str → Option Value} {b lz lv c3 c2 c1 : Addr} {oz ol oM oT oV : Obj} {us : List Value} {nb : Nat} {ns : List Int} (stored : List Str)
    (hh : A.handled = none) (hr : IsRange s.heap r 0 8 1 t₀ u₀ v₀) (F : Fr g env.locals s.heap m₀)
    (N : News g env.locals s.heap [(b, listOf us.toArray nb), (lz, oz), (lv, ol), (c3, oM), (c2, oT), (c1, oV)]) (hb : m₀ y₀ = some (.ref b)) (hf : Far b lv c3 c2 c1) (hI : IntsAre us (List.replicate ns.length 0))
    (turn : ∀ (i : Nat) (k : Int) (b : Addr) (us : List Value) (nb : Nat) (u : Str → Option Value) (t : Tok) (h : Heap) (tk : Nat) (I : Addr) (oI : Obj), i < 8 → k = (i : Int) → IntsAre us (traj ns (i - 1)) → Far b lv c3 c2 c1 →
      (@Ne Nat b I ∧ @Ne Nat lv I ∧ @Ne Nat c3 I ∧ @Ne Nat c2 I ∧ @Ne Nat c1 I) →
      Fr g env.locals h (fun y => if y = x then some (.int k t) else if y = y₀ then some (.ref b) else if stored.contains y then u y else m₀ y) →
      News g env.locals h [(I, oI), (b, listOf us.toArray nb), (lv, ol), (c3, oM), (c2, oT), (c1, oV)] →
      wpAny (model prog w) A (execs body env) (HPost g env.locals { s with heap := h, toks := tk } y₀ stored m₀ I oI lv c3 c2 c1 ol oM oT oV Q (traj ns i)) E { s with heap := h, toks := tk })
    (done : ∀ (b : Addr) (us : List Value) (nb : Nat) (u : Str → Option Value) (h : Heap) (tk : Nat), IntsAre us (traj ns 7) → Far b lv c3 c2 c1 →
      Fr g env.locals h (fun y => if y = y₀ then some (.ref b) else if stored.contains y then u y else m₀ y) →
      News g env.locals h [(b, listOf us.toArray nb), (lv, ol), (c3, oM), (c2, oT), (c1, oV)] → Q .next { s with heap := h, toks := tk }) :
    wpAny (model prog w) A (pyIter (.ref r)) (fun it s₂ => LoopAtV prog w A g env x body Q E it s₂) E s := by
  refine range_loop (n := 8) (news := [(b, listOf us.toArray nb), (lv, ol), (c3, oM), (c2, oT), (c1, oV)]) (fun i m₁ nx => ∃ b us nb, nx = [(b, listOf us.toArray nb), (lv, ol), (c3, oM), (c2, oT), (c1, oV)] ∧ IntsAre us (traj ns (i - 1)) ∧ Far b lv c3 c2 c1 ∧ HFrame y₀ stored m₀ b m₁)
    hh hr (by decide) (by decide) F (kst_newsOf N fun p hp => ?_) ⟨b, us, nb, rfl, hI, hf, hb, fun _ _ _ => rfl⟩ ?_ ?_
  · simp only [List.mem_cons, List.not_mem_nil, or_false] at hp ⊢
    rcases hp with h | h | h | h | h <;> simp [h]
  · rintro i k m₁ nx t h tk I oI hi hk ⟨b, us, nb, rfl, hI, hf, hF⟩ hne F' N'
    have h2 : k = (i : Int) := by omega
    rw [hF.eq] at F'
    refine wpAny_mono (turn i k b us nb m₁ t h tk I oI hi h2 hI hf ⟨hne _ (.head _), hne _ (.tail _ (.head _)), hne _ (.tail _ (.tail _ (.head _))), hne _ (.tail _ (.tail _ (.tail _ (.head _)))), hne _ (.tail _ (.tail _ (.tail _ (.tail _ (.head _)))))⟩ F' N') (fun f s₂ y => ?_) fun _ _ e => e
    have up : HEnd g env.locals { s with heap := h, toks := tk } y₀ stored m₀ I oI lv c3 c2 c1 ol oM oT oV (traj ns i) s₂ → REnd g env.locals { s with heap := h, toks := tk } I oI
        (fun m₁ nx => ∃ b us nb, nx = [(b, listOf us.toArray nb), (lv, ol), (c3, oM), (c2, oT), (c1, oV)] ∧ IntsAre us (traj ns (i + 1 - 1)) ∧ Far b lv c3 c2 c1 ∧ HFrame y₀ stored m₀ b m₁) s₂ := by
      rintro ⟨h', tk', m', b', us', nb', e, F2, N2, hbI, hf2, hI2, hF2⟩
      refine ⟨h', tk', m', _, e, F2, N2, fun p hp => ?_, b', us', nb', rfl, by simpa using hI2, hf2, hF2⟩
      rcases List.mem_cons.mp hp with rfl | hp
      · exact hbI
      · exact hne p (.tail _ hp)
    cases f with
    | ret v => exact y
    | brk => exact y
    | next => exact up y
    | cont => exact up y
  · rintro m₁ nx h tk ⟨b, us, nb, rfl, hI, hf, hF⟩ F' N'
    rw [hF.eq] at F'
    exact done b us nb m₁ h tk hI hf F' N'
end
end Mine
end

-- L5
section
set_option maxHeartbeats 8000000
open PySem PySem.W PySem.Spec PySem.Calls PyProof.Rows
namespace Mine
theorem below_of {K : Frag} {h : Heap} (_ : K.In h) : Below callerA h [] h := below_caller h
section
variable {M : Model} {A : Around} {E : Value → Shared → Prop} {Q : Flow → Shared → Prop} {s : Shared} {t : Sem Flow} {h₀ : Heap} {L : Addr} {m₀ : Str → Option Value} {news : List (Addr × Obj)}
def PTold (h₀ : Heap) (L : Addr) (x : Str) (m₀ : Str → Option Value) (news : List (Addr × Obj)) (T : List Int) (h' : Heap) : Prop :=
  ∃ r vs n, Fr h₀ L h' (fun y => if y = x then some (.ref r) else m₀ y) ∧ News h₀ L h' ((r, listOf vs.toArray n) :: news) ∧ (∀ q ∈ news, @Ne Nat q.1 r) ∧ IntsAre vs T
theorem mid_told (F : Fr h₀ L s.heap m₀) (N : News h₀ L s.heap news) (x : Str) (T : List Int) (h1 : wpAny M A t (Mid (PTold h₀ L x m₀ news T) s) E s)
    (h2 : ∀ r vs n h' tk', Fr h₀ L h' (fun y => if y = x then some (.ref r) else m₀ y) → News h₀ L h' ((r, listOf vs.toArray n) :: news) → (∀ q ∈ news, @Ne Nat q.1 r) → IntsAre vs T → Q .next { s with heap := h', toks := tk' }) : wpAny M A t Q E s :=
  let _ := F; let _ := N
  mid_cut _ h1 fun h' tk' ⟨r, vs, n, F', N', hne, hI⟩ => h2 r vs n h' tk' F' N' hne hI
end
end Mine
end

-- L6
section
set_option maxHeartbeats 8000000
open PySem PySem.W PySem.Spec PySem.Calls PyProof.Rows
namespace Mine
section
variable {prog : Program} {w : World} {A : Around} {E : Value → Shared → Prop} {Q : Flow → Shared → Prop} {s : Shared} {env : Env} {g : Heap}
def CEnd (g : Heap) (L : Addr) (s : Shared) (stored : List Str) (m₀ : Str → Option Value) (I : Addr) (oI : Obj) (news : List (Addr × Obj)) (s₂ : Shared) : Prop :=
  ∃ (h' : Heap) (tk' : Nat) (m' : Str → Option Value), s₂ = { s with heap := h', toks := tk' } ∧ Fr g L h' m' ∧ News g L h' ((I, oI) :: news) ∧ (∀ z, stored.contains z = false → m' z = m₀ z)
def CPost (g : Heap) (L : Addr) (s : Shared) (stored : List Str) (m₀ : Str → Option Value) (I : Addr) (oI : Obj) (news : List (Addr × Obj)) (Q : Flow → Shared → Prop) (f : Flow) (s₂ : Shared) : Prop :=
  match f with
  | .ret v => Q (.ret v) s₂
  | .brk => Q .next s₂
  | _ => CEnd g L s stored m₀ I oI news s₂
theorem stored_eq {stored : List Str} {m₀ m' : Str → Option Value} (h : ∀ z, stored.contains z = false → m' z = m₀ z) : m' = fun y => if stored.contains y then m' y else m₀ y := by
  funext y
  cases h2 : stored.contains y with
  | true => simp
  | false => simp only [Bool.false_eq_true, if_false]; exact h y h2
/-- a loop over a range that changes nothing but names -/
theorem chk_loop {x : Str} {body : List Stmt} {r : Addr} {b₀ : Int} {n : Nat} {t₀ u₀ v₀ : Tok} {m₀ : Str → Option Value} {news : List (Addr × Obj)} (stored : List Str)
    (hh : A.handled = none) (hr : IsRange s.heap r 0 b₀ 1 t₀ u₀ v₀) (hsmall : Builtin.Range.small 0 b₀ 1 = true) (hn : Builtin.Range.rangeSize 0 b₀ 1 = (n : Int)) (F : Fr g env.locals s.heap m₀) (N : News g env.locals s.heap news)
    (turn : ∀ (k : Int) (t : Tok) (u : Str → Option Value) (h : Heap) (tk : Nat) (I : Addr) (oI : Obj), 0 ≤ k → k < (n : Int) → (∀ p ∈ news, @Ne Nat p.1 I) →
      Fr g env.locals h (fun y => if y = x then some (.int k t) else if stored.contains y then u y else m₀ y) → News g env.locals h ((I, oI) :: news) →
      wpAny (model prog w) A (execs body env) (CPost g env.locals { s with heap := h, toks := tk } stored m₀ I oI news Q) E { s with heap := h, toks := tk })
    (done : ∀ (u : Str → Option Value) (h : Heap) (tk : Nat), Fr g env.locals h (fun y => if stored.contains y then u y else m₀ y) → News g env.locals h news → Q .next { s with heap := h, toks := tk }) :
    wpAny (model prog w) A (pyIter (.ref r)) (fun it s₂ => LoopAtV prog w A g env x body Q E it s₂) E s := by
  refine range_loop (fun i m₁ nx => nx = news ∧ ∀ z, stored.contains z = false → m₁ z = m₀ z) hh hr hsmall hn F N ⟨rfl, fun _ _ => rfl⟩ ?_ ?_
  · rintro i k m₁ nx t h tk I oI hi hk ⟨rfl, hm⟩ hne F' N'
    rw [stored_eq hm] at F'
    refine wpAny_mono (turn k t m₁ h tk I oI (by omega) (by omega) hne F' N') (fun f s₂ y => ?_) fun _ _ e => e
    have up : CEnd g env.locals { s with heap := h, toks := tk } stored m₀ I oI nx s₂ → REnd g env.locals { s with heap := h, toks := tk } I oI (fun m₁ nx' => nx' = nx ∧ ∀ z, stored.contains z = false → m₁ z = m₀ z) s₂ := by
      rintro ⟨h', tk', m', e, F2, N2, hm2⟩
      exact ⟨h', tk', m', nx, e, F2, N2, hne, rfl, hm2⟩
    cases f with
    | ret v => exact y
    | brk => exact y
    | next => exact up y
    | cont => exact up y
  · rintro m₁ nx h tk ⟨rfl, hm⟩ F' N'
    rw [stored_eq hm] at F'
    exact done m₁ h tk F' N'
end
end Mine
end

-- L7
section
set_option maxHeartbeats 8000000
open PySem PySem.W PySem.Spec PySem.Calls PyProof.Rows
namespace Mine
section
variable {prog : Program} {w : World} {A : Around} {E : Value → Shared → Prop} {Q : Flow → Shared → Prop} {s : Shared} {env : Env} {g : Heap}
def MEnd (g : Heap) (L : Addr) (s : Shared) (stored : List Str) (m₀ : Str → Option Value) (I : Addr) (oI : Obj) (pre : List (Addr × Obj)) (b lv c3 c2 c1 : Addr) (ob ol oT oV : Obj) (s₂ : Shared) : Prop :=
  ∃ (h' : Heap) (tk' : Nat) (m' : Str → Option Value) (oM : Obj) (v : Option Value), s₂ = { s with heap := h', toks := tk' } ∧ Fr g L h' m' ∧ News g L h' ((I, oI) :: (pre ++ [(b, ob), (lv, ol), (c3, oM), (c2, oT), (c1, oV)])) ∧ oM.data = .cell v ∧ (∀ z, stored.contains z = false → m' z = m₀ z)
def MPost (g : Heap) (L : Addr) (s : Shared) (stored : List Str) (m₀ : Str → Option Value) (I : Addr) (oI : Obj) (pre : List (Addr × Obj)) (b lv c3 c2 c1 : Addr) (ob ol oT oV : Obj) (Q : Flow → Shared → Prop) (f : Flow) (s₂ : Shared) : Prop :=
  match f with
  | .ret v => Q (.ret v) s₂
  | .brk => Q .next s₂
  | _ => MEnd g L s stored m₀ I oI pre b lv c3 c2 c1 ob ol oT oV s₂
/-- a loop over a range that changes names and one cell -/
theorem m_loop {x : Str} {body : List Stmt} {r : Addr} {b₀ : Int} {n : Nat} {t₀ u₀ v₀ : Tok} {m₀ : Str → Option Value} {b lv c3 c2 c1 : Addr} {ob ol oM oT oV : Obj} {v : Option Value} (pre : List (Addr × Obj)) (stored : List Str)
    (hh : A.handled = none) (hr : IsRange s.heap r 0 b₀ 1 t₀ u₀ v₀) (hsmall : Builtin.Range.small 0 b₀ 1 = true) (hn : Builtin.Range.rangeSize 0 b₀ 1 = (n : Int)) (F : Fr g env.locals s.heap m₀)
    (N : News g env.locals s.heap (pre ++ [(b, ob), (lv, ol), (c3, oM), (c2, oT), (c1, oV)])) (dM : oM.data = .cell v)
    (turn : ∀ (k : Int) (t : Tok) (u : Str → Option Value) (h : Heap) (tk : Nat) (I : Addr) (oI oM : Obj) (v : Option Value), 0 ≤ k → k < (n : Int) → oM.data = .cell v → (∀ p ∈ pre ++ [(b, ob), (lv, ol), (c3, oM), (c2, oT), (c1, oV)], @Ne Nat p.1 I) →
      Fr g env.locals h (fun y => if y = x then some (.int k t) else if stored.contains y then u y else m₀ y) → News g env.locals h ((I, oI) :: (pre ++ [(b, ob), (lv, ol), (c3, oM), (c2, oT), (c1, oV)])) →
      wpAny (model prog w) A (execs body env) (MPost g env.locals { s with heap := h, toks := tk } stored m₀ I oI pre b lv c3 c2 c1 ob ol oT oV Q) E { s with heap := h, toks := tk })
    (done : ∀ (u : Str → Option Value) (h : Heap) (tk : Nat) (oM : Obj) (v : Option Value), oM.data = .cell v → Fr g env.locals h (fun y => if stored.contains y then u y else m₀ y) → News g env.locals h (pre ++ [(b, ob), (lv, ol), (c3, oM), (c2, oT), (c1, oV)]) → Q .next { s with heap := h, toks := tk }) :
    wpAny (model prog w) A (pyIter (.ref r)) (fun it s₂ => LoopAtV prog w A g env x body Q E it s₂) E s := by
  refine range_loop (fun i m₁ nx => ∃ oM v, nx = pre ++ [(b, ob), (lv, ol), (c3, oM), (c2, oT), (c1, oV)] ∧ oM.data = .cell v ∧ ∀ z, stored.contains z = false → m₁ z = m₀ z) hh hr hsmall hn F N ⟨oM, v, rfl, dM, fun _ _ => rfl⟩ ?_ ?_
  · rintro i k m₁ nx t h tk I oI hi hk ⟨oM, v, rfl, dM, hm⟩ hne F' N'
    rw [stored_eq hm] at F'
    refine wpAny_mono (turn k t m₁ h tk I oI oM v (by omega) (by omega) dM hne F' N') (fun f s₂ y => ?_) fun _ _ e => e
    have up : MEnd g env.locals { s with heap := h, toks := tk } stored m₀ I oI pre b lv c3 c2 c1 ob ol oT oV s₂ → REnd g env.locals { s with heap := h, toks := tk } I oI
        (fun m₁ nx => ∃ oM v, nx = pre ++ [(b, ob), (lv, ol), (c3, oM), (c2, oT), (c1, oV)] ∧ oM.data = .cell v ∧ ∀ z, stored.contains z = false → m₁ z = m₀ z) s₂ := by
      rintro ⟨h', tk', m', oM', v', e, F2, N2, dM2, hm2⟩
      refine ⟨h', tk', m', _, e, F2, N2, fun p hp => ?_, oM', v', rfl, dM2, hm2⟩
      rcases List.mem_append.mp hp with hp | hp
      · exact hne p (List.mem_append_left _ hp)
      · simp only [List.mem_cons, List.not_mem_nil, or_false] at hp
        have h3 := hne (c3, oM) (by simp)
        rcases hp with rfl | rfl | rfl | rfl | rfl
        · exact hne _ (by simp)
        · exact hne _ (by simp)
        · exact h3
        · exact hne _ (by simp)
        · exact hne _ (by simp)
    cases f with
    | ret v => exact y
    | brk => exact y
    | next => exact up y
    | cont => exact up y
  · rintro m₁ nx h tk ⟨oM, v, rfl, dM, hm⟩ F' N'
    rw [stored_eq hm] at F'
    exact done m₁ h tk oM v dM F' N'
end
end Mine
end

-- L3
open PySem PySem.W PySem.Spec PySem.Calls PyProof.Rows
namespace Mine
theorem idx_lt2 {k2 k3 : Int} (h0 : 0 ≤ k3) (h1 : k3 < (((k2 - 0).toNat : Nat) : Int)) : k3 < k2 := by omega
theorem idx_lt3 {n : Nat} {k2 k3 : Int} (h0 : 0 ≤ k3) (h1 : k3 < (((k2 - 0).toNat : Nat) : Int)) (h2 : k2.toNat < n) : k3.toNat < n := by omega
end Mine
open Mine
local macro_rules | `(tactic| k_steps) => `(tactic| repeat' ((fail_if_success (with_reducible show wpAny _ _ (exec (Stmt.Assign _ (Expr.IfExp (Expr.BinOp _ _ _ _) _ _ _) _) _) _ _ _)); (fail_if_success (with_reducible show Mid _ _ _ _)); (fail_if_success (with_reducible show wpAny _ _ (call (Value.ref 74) _) _ _ _)); (fail_if_success (with_reducible show wpAny _ _ (call (Value.ref 49) _) _ _ _)); (fail_if_success (with_reducible show wpAny _ _ (exec (Stmt.While _ _ _ _) _) _ _ _)); (fail_if_success (with_reducible show wpAny _ _ (exec (Stmt.For _ _ _ _ _) _) _ _ _)); (fail_if_success (with_reducible show wpAny _ _ (pyIter (Value.ref _)) (fun it s₂ => LoopAtV _ _ _ _ _ _ _ _ _ it s₂) _ _)); (fail_if_success (with_reducible show LCg.CompSrc _ _ _ _ _ _ _ _ _ _ _ _ _ _)); (fail_if_success (with_reducible show LCt.CompSrcT _ _ _ _ _ _ _ _ _ _ _ _ _ _ _)); (fail_if_success (with_reducible show KCfEl _ _ _ _)); (fail_if_success (with_reducible show KPfDone _)); (fail_if_success (with_reducible show LCg.CompEnd _ _ _ _ _ _ _ _ _ _ _ (fun _ _ => KCiEl _ _ _ _ _) _ _)); (fail_if_success (with_reducible show LCg.CompEnd _ _ _ _ _ _ _ _ _ _ _ (fun _ _ => KCiNo _ _ _ _) _ _));  (fail_if_success (with_reducible show wpAny _ _ (exec (Stmt.Assign _ (Expr.ListComp _ [{ target := _, iter := _, ifs := _ :: _, is_async := _ }] _ _) _) _) _ _ _)); first | (k_unfold; (try dsimp only)) | (k_end; wrow_close) | walk1 | (dsimp only; walk1) | (leave1; walk_say "STEP leave1"; try dsimp only) | fail "no step"))
local macro_rules | `(tactic| walk_at "binaryOp FloorDiv int int") => `(tactic| ((refine floordiv_int ?nz ?_ (Or.inl ?np)); (case np => first | exact noPylong_neg (by omega) (by omega) (by omega) (by omega) | exact noPylong_pos (by omega) (by omega) (by omega) (by omega)); (case nz => omega)))
local macro_rules | `(tactic| walk_at "subscriptTail Name Slice ref ref") => `(tactic| ((with_reducible show wpAny _ _ (subscriptTail _ (PySem.Expr.Slice none none none _) (Value.ref _) (Value.ref _)) _ _ _); k_dflt (refine' kmk_slice_ints ?F ?N ?l ?p ?q ?i ?m ?c ?_ ?s ?t ?z; (case F => k_asm); (case N => k_asm); (case l => exact News.isList (by k_asm) (by k_mem)); (case p => exact IsPart.none); (case q => exact IsPart.none); (case i => assumption); (case m => exact kmk_all (by assumption)); (case c => exact rfl); (case s => with_unfolding_all rfl); (case t => kmk_pure); (case z => exact kmk_sz (by assumption) (by rw [PySem.sizeLine_eq]; omega))); intro D' ws' h' F' N' l1 hI' hC' hL'; clear hC' hL'; (try k_lt l1); (try k_sweep)))
local macro_rules | `(tactic| walk_at "call type:range") => `(tactic| ((with_reducible show wpAny _ _ (call _ [_]) _ _ _); (rename Fr _ _ _ _ => F'); (rename News _ _ _ _ => N'); (with_unfolding_all refine range1_rows F' N' ?_); intro _ _ _ _ _ _ F' N' _; (try k_sweep)))
set_option maxRecDepth 100000 in
set_option maxHeartbeats 8000000 in
theorem PySem.Challenge.cw_jg0014_01_holds : PySem.Challenge.rw_jg0014_01.Holds := by
  refine hd ?_
  w_strict (
   k_go0
   (all_goals try k_fold)
   walk1
   (rename Fr _ _ _ _ => wF)
   (rename News _ _ _ _ => wN)
   (rename CellsAre _ _ _ => wY)
   k_dflt (refine mid_head wF wN (Str.ofString "head") ?_ ?_)
   · k_steps
     all_goals (rename Fr _ _ _ _ => zF)
     all_goals (rename News _ _ _ _ => zN)
     all_goals exact Mid.intro ⟨_, _, zF, zN⟩
   clear wF wN
   intro hv9 ht9 h9 tk9 F9 N9
   dsimp only
   try k_fold
   walk1
   k_dflt (refine mid_votes F9 N9 ?_ ?_)
   · k_steps
     focus
      walk1
     walk1
     k_steps
     · (rename Fr _ _ _ _ => zF)
       (rename News _ _ _ _ => zN)
       (rename IntsAre _ (List.map _ _) => zI)
       (rename 0 < _ => zp)
       (rename _ ≠ _ ∧ _ => zne)
       exact Mid.intro ⟨_, _, _, _, _, zF, kst_newsOf zN (by kst_in), by assumption, zI, zp, abs_len _ _, abs_nn _, ⟨Ne.symm zne.2.1, Ne.symm zne.2.2.1, Ne.symm zne.2.2.2⟩, fun e => by cases e⟩
     · (rename Fr _ _ _ _ => zF)
       (rename News _ _ _ _ => zN)
       (rename _ < _ ∧ _ => zlt)
       exact Mid.intro ⟨_, [_], [1], 0, _, zF, kst_newsOf zN (by kst_in), by assumption, .cons 1 _ .nil, by decide, by decide, by decide, ⟨Nat.ne_of_gt zlt.2.2.1, Nat.ne_of_gt zlt.2.2.2.1, Nat.ne_of_gt zlt.2.2.2.2⟩, fun e => by cases e⟩
     all_goals (try k_data)
   clear F9 N9
   intro lv vs ns nl oV h8 tk8 F8 N8 dV hI8 hn1 hn5 hnn hne
   dsimp only
   try k_fold
   walk1
   k_dflt (refine mid_pos F8 N8 ?_ ?_)
   · k_steps
     · (rename Fr _ _ _ _ => zF)
       (rename News _ _ _ _ => zN)
       (rename IntsAre _ (List.set _ _ _) => zI)
       (rename ns.sum = 0 => zp)
       have z0 := set_one hnn hn1 zp
       exact Mid.intro ⟨_, _, _, _, _, zF, zN, dV, zI, by rw [List.length_set]; exact hn1, by rw [List.length_set]; exact hn5, z0.1, hne, fun _ => z0.2⟩
     · (rename Fr _ _ _ _ => zF)
       (rename News _ _ _ _ => zN)
       (rename _ ≠ 0 => zp)
       have z0 := sum_nn hnn
       exact Mid.intro ⟨_, _, _, _, _, zF, zN, dV, hI8, hn1, hn5, hnn, hne, fun _ => by omega⟩
   clear F8 N8 dV hI8 hn1 hn5 hnn hne
   intro lv vs ns nl oV h8 tk8 F8 N8 dV hI8 hn1 hn5 hnn hne hpos
   dsimp only
   try k_fold
   k_steps
   (rename Fr _ _ _ _ => wF)
   k_dflt (refine' For_invVF wF (by rfl) (by rfl) ?_)
   k_steps
   (rename Fr _ _ _ _ => wF)
   (rename News _ _ _ _ => wN)
   (rename IsRange _ _ _ _ _ _ _ _ => wR)
   (rename _ < _ ∧ _ => wl)
   (rename Frag.In _ _ => hX)
   (rename Top _ _ _ _ _ _ => hT)
   (rename Below _ _ _ _ => hK0)
   clear hK0
   have hB := below_of hX
   (rename Obj.data _ = Data.cell (some (Value.int ns.sum _)) => dT)
   k_dflt (refine h_loop (y₀ := Str.ofString "before") (ns := ns) [Str.ofString "house", Str.ofString "given", Str.ofString "told", Str.ofString "i", Str.ofString "j"] rfl wR wF wN (by rfl) ⟨Nat.ne_of_gt wl.2.1, Nat.ne_of_gt wl.2.2.1, Nat.ne_of_gt wl.2.2.2.1, Nat.ne_of_gt wl.2.2.2.2⟩ (by rw [← rep_flat]; l_ints) ?_ ?_)
   · intro i9 k b us nb u t h tk I oI hi9 hk hIB hfar hI0 F1 N1
     clear wF wN wR wl
     have hf := traj_facts hnn hpos i9
     have hfB := (traj_facts hnn hpos (i9 - 1)).1
     generalize hTT : traj ns i9 = TT at hf
     generalize hBB : traj ns (i9 - 1) = BB at hf hfB hIB
     rw [← hk] at hf
     have hTL := hf.1
     have hTS := hf.2.1
     have hk0 : 0 ≤ k := by omega
     have hk7 : k ≤ 7 := by omega
     have hkn : k.toNat = i9 := by omega
     have hf0 := hf.2.2.1
     have hfm := hf.2.2.2.1
     have hfq := hf.2.2.2.2.1
     have hfo := hf.2.2.2.2.2
     have hf1 : @Ne Nat b lv := hfar.1
     have hf2 := hfar.2
     revert hX; revert hT; revert hB; revert dT; revert dV; revert hI8; revert hn1; revert hn5; revert hnn; revert hne; revert hpos; revert hIB; revert hfar; revert hf1; revert hf2; revert hI0; revert F1; revert N1; revert hf0; revert hfm; revert hfq; revert hfo; revert hfB; revert hTL; revert hTS; revert hk0; revert hk7; revert hkn; revert hTT
     kjx_bare
     intro hTT hkn hk7 hk0 hTS hTL hfB hfo hfq hfm hf0 N1 F1 hI0 hf2 hf1 hfar hIB hpos hne hnn hn5 hn1 hI8 dV dT hB hT hX
     k_steps
     (rename Fr _ _ _ _ => zF)
     (rename News _ _ _ _ => zN)
     k_dflt (refine mid_told zF zN (Str.ofString "told") TT ?_ ?_)
     · walk1
       k_steps
       · k_dflt (refine' quota_walk ?haq1 hpos hnn ?Bq1 ?Fq1 ?Xq1 ?Nq1 ?Tq1 ?hckq1 ?hlq1 ?hIq1 hn5 hn1 hk0 hk7 ?hdpq1 ?hunq1 ?_; (case Bq1 => k_asm); (case Fq1 => k_asm); (case Xq1 => k_asm); (case Nq1 => k_asm); (case Tq1 => k_asm); (case haq1 => exact .inr rfl); (case hckq1 => exact rfl); (case hlq1 => exact News.isList (by k_asm) (by k_mem)); (case hIq1 => assumption); (case hdpq1 => ktr_room); (case hunq1 => ktr_units))
         intro r9 us9 n9 h99 tk99 F99 N99 hne99 hI99
         rw [hkn, hTT] at hI99
         k_steps
         (rename Fr _ _ _ _ => zF)
         (rename News _ _ _ _ => zN)
         exact Mid.intro ⟨_, _, _, zF, zN, hne99, hI99⟩
       · k_dflt (refine' quota_walk ?haq2 hpos hnn ?Bq2 ?Fq2 ?Xq2 ?Nq2 ?Tq2 ?hckq2 ?hlq2 ?hIq2 hn5 hn1 hk0 hk7 ?hdpq2 ?hunq2 ?_; (case Bq2 => k_asm); (case Fq2 => k_asm); (case Xq2 => k_asm); (case Nq2 => k_asm); (case Tq2 => k_asm); (case haq2 => exact .inl rfl); (case hckq2 => exact rfl); (case hlq2 => exact News.isList (by k_asm) (by k_mem)); (case hIq2 => assumption); (case hdpq2 => ktr_room); (case hunq2 => ktr_units))
         intro r9 us9 n9 h99 tk99 F99 N99 hne99 hI99
         rw [hkn, hTT] at hI99
         k_steps
         (rename Fr _ _ _ _ => zF)
         (rename News _ _ _ _ => zN)
         exact Mid.intro ⟨_, _, _, zF, zN, hne99, hI99⟩
     clear zF zN
     intro r9 us9 n9 h99 tk99 F99 N99 hne99 hI99
     simp only [List.forall_mem_cons, List.not_mem_nil, false_implies, implies_true, and_true] at hne99
     try dsimp only
     try k_fold
     k_steps
     · exfalso; omega
     · exfalso; omega
     (rename Fr _ _ _ _ => zF); revert zF
     (rename News _ _ _ _ => zN); revert zN
     revert hX; revert hT; revert hB; revert dT; revert dV; revert hI8; revert hn1; revert hn5; revert hnn; revert hne; revert hpos; revert hIB; revert hfar; revert hf1; revert hf2; revert hI0; revert hf0; revert hfm; revert hfq; revert hfo; revert hfB; revert hTL; revert hTS; revert hk0; revert hk7; revert hkn; revert hTT; revert hI99; revert hne99
     kjx_bare
     intro hne99 hI99 hTT hkn hk7 hk0 hTS hTL hfB hfo hfq hfm hf0 hI0 hf2 hf1 hfar hIB hpos hne hnn hn5 hn1 hI8 dV dT hB hT hX zN zF
     (rename Fr _ _ _ _ => wF)
     k_dflt (refine' For_invVF wF (by rfl) (by rfl) ?_)
     k_steps
     (rename Fr _ _ _ _ => wF)
     (rename News _ _ _ _ => wN)
     (rename IsRange _ _ _ _ _ _ _ _ => wR)
     k_dflt (refine chk_loop [Str.ofString "i", Str.ofString "j"] rfl wR (by first | exact small_one (by kcf_bnd) (by kcf_bnd) (by kcf_bnd) (by kcf_bnd) | decide) (by first | exact rangeSize_nat _ _ | rfl) wF wN ?_ ?_)
     · intro k2 t2 u2 h2 tk2 I2 oI2 hk20 hk21 hI2 F2 N2
       have hk2l := idx_ltN hk20 hk21
       rw [show ((ns.length : Int) - 0).toNat = ns.length by omega] at hk2l
       have hm2 := hfm k2.toNat hk2l
       have hq2 := hfq k2.toNat hk2l
       have hb2 := hf0 k2.toNat hk2l
       clear wF wN wR
       revert hX; revert hT; revert hB; revert dT; revert dV; revert hI8; revert hn1; revert hn5; revert hpos; revert hIB; revert hfo; revert hfB; revert hTL; revert hk0; revert hk7; revert hI99; revert hk20; revert hk21; revert hk2l; revert hm2; revert hq2; revert hb2; revert F2; revert N2
       kjx_bare
       intro N2 F2 hb2 hq2 hm2 hk2l hk21 hk20 hI99 hk7 hk0 hTL hfB hfo hIB hpos hn5 hn1 hI8 dV dT hB hT hX
       k_steps
       (rename Fr _ _ _ _ => wF)
       k_dflt (refine' For_invVF wF (by rfl) (by rfl) ?_)
       k_steps
       (rename Fr _ _ _ _ => wF)
       (rename News _ _ _ _ => wN)
       (rename IsRange _ _ _ _ _ _ _ _ => wR)
       k_dflt (refine chk_loop [Str.ofString "j"] rfl wR (by first | exact small_one (by kcf_bnd) (by kcf_bnd) (by kcf_bnd) (by kcf_bnd) | decide) (by first | exact rangeSize_nat _ _ | rfl) wF wN ?_ ?_)
       · intro k3 t3 u3 h3 tk3 I3 oI3 hk30 hk31 hI3 F3 N3
         have hk3l := idx_lt2 hk30 hk31
         have hk3n := idx_lt3 hk30 hk31 hk2l
         have hoa := hfo k2.toNat k3.toNat hk2l hk3n
         have hob := hfo k3.toNat k2.toNat hk3n hk2l
         clear wF wN wR
         revert hX; revert hT; revert hB; revert dV; revert hI8; revert hn5; revert hTL; revert hI99; revert hk20; revert hk21; revert hk2l; revert hk30; revert hk31; revert hk3l; revert hk3n; revert hoa; revert hob; revert F3; revert N3
         kjx_bare
         intro N3 F3 hob hoa hk3n hk3l hk31 hk30 hk2l hk21 hk20 hI99 hTL hn5 hI8 dV hB hT hX
         k_steps
         all_goals (rename Fr _ _ _ _ => zF)
         all_goals (rename News _ _ _ _ => zN)
         all_goals dsimp only [CPost]
         all_goals exact ⟨_, _, _, rfl, zF, zN, by intro z g; have g4 := g; simp only [List.contains_cons, List.contains_nil, Bool.or_false, beq_eq_false_iff_ne, ne_eq] at g4; simp only [g, g4, if_false, Bool.false_eq_true]⟩
       · intro u3 h3 tk3 F3 N3
         clear wF wN wR
         k_steps
         (rename Fr _ _ _ _ => zF)
         (rename News _ _ _ _ => zN)
         dsimp only [CPost]
         refine ⟨_, _, _, rfl, zF, zN, ?_⟩
         intro z g
         have g4 := g
         simp only [List.contains_cons, List.contains_nil, Bool.or_false, Bool.or_eq_false_iff, beq_eq_false_iff_ne, ne_eq] at g4
         have g5 : [Str.ofString "j"].contains z = false := by simp only [List.contains_cons, List.contains_nil, Bool.or_false, beq_eq_false_iff_ne, ne_eq]; exact g4.2
         simp only [g, g5, g4.1, g4.2, if_false, Bool.false_eq_true]
     · intro u2 h2 tk2 F2 N2
       clear wF wN wR
       k_steps
       (rename Fr _ _ _ _ => zF)
       (rename News _ _ _ _ => zN)
       dsimp only [HPost]
       refine ⟨_, _, _, r9, us9, n9, rfl, zF, kst_newsOf zN (by kst_in), Ne.symm hne99.2.1, ⟨Ne.symm hne99.2.2.2.1, Ne.symm hne99.2.2.2.2.1, Ne.symm hne99.2.2.2.2.2.1, Ne.symm hne99.2.2.2.2.2.2⟩, hI99, by rfl, ?_⟩
       intro z g1 g3
       have g4 := g3
       simp only [List.contains_cons, List.contains_nil, Bool.or_false, Bool.or_eq_false_iff, beq_eq_false_iff_ne, ne_eq] at g4
       have g5 : [Str.ofString "i", Str.ofString "j"].contains z = false := by simp only [List.contains_cons, List.contains_nil, Bool.or_false, Bool.or_eq_false_iff, beq_eq_false_iff_ne, ne_eq]; exact g4.2.2.2
       simp only [g1, g3, g5, g4.1, g4.2.1, g4.2.2.1, if_false, Bool.false_eq_true]
   · intro b us nb u h tk hIB hfar F1 N1
     clear wF wN wR wl
     have hf := traj_facts hnn hpos 7
     generalize hTT : traj ns 7 = TT at hf hIB
     have hTL := hf.1
     have hTS : TT.sum = 7 := hf.2.1
     have hf0 : ∀ i, i < ns.length → 0 ≤ TT.getD i 0 ∧ TT.getD i 0 ≤ 7 := hf.2.2.1
     have hf1 : @Ne Nat b lv := hfar.1
     have hf2 := hfar.2
     dsimp only
     try k_fold
     k_steps
     (rename Fr _ _ _ _ => wF)
     k_dflt (refine' For_invVF wF (by rfl) (by rfl) ?_)
     k_steps
     (rename Fr _ _ _ _ => wF)
     (rename News _ _ _ _ => wN)
     (rename IsRange _ _ _ _ _ _ _ _ => wR)
     k_dflt (refine m_loop [] [Str.ofString "i", Str.ofString "j", Str.ofString "off"] rfl wR (by first | exact small_one (by kcf_bnd) (by kcf_bnd) (by kcf_bnd) (by kcf_bnd) | decide) (by first | exact rangeSize_nat _ _ | rfl) wF wN (by assumption) ?_ ?_)
     · intro k2 t2 u2 h2 tk2 I2 oI2 oM2 v2 hk20 hk21 dM2 hI2 F2 N2
       have hk2l := idx_ltN hk20 hk21
       rw [show ((ns.length : Int) - 0).toNat = ns.length by omega] at hk2l
       simp only [List.nil_append, List.forall_mem_cons, List.not_mem_nil, false_implies, implies_true, and_true] at hI2
       simp only [List.nil_append] at N2
       clear wF wN wR
       revert hX; revert hT; revert hB; revert dT; revert dV; revert hI8; revert hn1; revert hn5; revert hnn; revert hne; revert hpos; revert hIB; revert hTL; revert hTS; revert hf0; revert hf1; revert hf2; revert hk20; revert hk21; revert hk2l; revert dM2; revert hI2; revert F2; revert N2
       kjx_bare
       intro N2 F2 hI2 dM2 hk2l hk21 hk20 hf2 hf1 hf0 hTS hTL hIB hpos hne hnn hn5 hn1 hI8 dV dT hB hT hX
       k_steps
       (rename Fr _ _ _ _ => wF)
       k_dflt (refine' For_invVF wF (by rfl) (by rfl) ?_)
       k_steps
       (rename Fr _ _ _ _ => wF)
       (rename News _ _ _ _ => wN)
       (rename IsRange _ _ _ _ _ _ _ _ => wR)
       k_dflt (refine m_loop [(I2, oI2)] [Str.ofString "j", Str.ofString "off"] rfl wR (by first | exact small_one (by kcf_bnd) (by kcf_bnd) (by kcf_bnd) (by kcf_bnd) | decide) (by first | exact rangeSize_nat _ _ | rfl) wF wN dM2 ?_ ?_)
       · intro k3 t3 u3 h3 tk3 I3 oI3 oM3 v3 hk30 hk31 dM3 hI3 F3 N3
         have hk3l := idx_ltN hk30 hk31
         rw [show ((ns.length : Int) - 0).toNat = ns.length by omega] at hk3l
         simp only [List.cons_append, List.nil_append, List.forall_mem_cons, List.not_mem_nil, false_implies, implies_true, and_true] at hI3
         simp only [List.cons_append, List.nil_append] at N3
         clear wF wN wR
         revert hX; revert hT; revert hB; revert dT; revert dV; revert hI8; revert hn1; revert hn5; revert hnn; revert hne; revert hpos; revert hIB; revert hTL; revert hTS; revert hf0; revert hf1; revert hf2; revert hk20; revert hk21; revert hk2l; revert dM2; revert hI2; revert hk30; revert hk31; revert hk3l; revert dM3; revert hI3; revert F3; revert N3
         kjx_bare
         intro N3 F3 hI3 dM3 hk3l hk31 hk30 hI2 dM2 hk2l hk21 hk20 hf2 hf1 hf0 hTS hTL hIB hpos hne hnn hn5 hn1 hI8 dV dT hB hT hX
         k_steps
         (rename IntsAre _ (List.set _ _ _) => zI)
         generalize hms : (TT.set k2.toNat (TT.getD k2.toNat 0 + 1)).set k3.toNat ((TT.set k2.toNat (TT.getD k2.toNat 0 + 1)).getD k3.toNat 0 - 1) = ms at zI
         have hmv := mv_facts hTL hTS hf0 hk2l hk3l hms
         have hml := hmv.1
         have hm7 := hmv.2.1
         (rename Fr _ _ _ _ => zF); revert zF
         (rename News _ _ _ _ => zN); revert zN
         (rename IsRange _ _ _ _ _ _ _ _ => zR); revert zR
         (rename Obj.data _ = Data.cell (some (Value.ref _)) => dM9); revert dM9
         (rename _ < _ ∧ _ => zl9); revert zl9
         revert hX; revert hT; revert hB; revert dT; revert dV; revert hI8; revert hn1; revert hn5; revert hnn; revert hne; revert hpos; revert hIB; revert hf1; revert hf2; revert hI2; revert hI3; revert zI; revert hmv; revert hml; revert hm7
         kjx_bare
         intro hm7 hml hmv zI hI3 hI2 hf2 hf1 hIB hpos hne hnn hn5 hn1 hI8 dV dT hB hT hX zl9 dM9 zR zN zF
         k_dflt (refine LCg.CompSrc.range (by rfl) (by k_asm) (by k_asm) (by assumption) (by first | exact small_one (by kcf_bnd) (by kcf_bnd) (by kcf_bnd) (by kcf_bnd) | decide) (by first | exact rangeSize_nat _ _ | rfl) (by first | exact Nat.le_of_ble_eq_true rfl | (rw [PySem.sizeLine_eq]; first | omega | ((simp only [List.size_toArray]); omega) | ((have hb9 := len_ints_list (by lay_of)); omega)) | size_fits) ?_)
         intro gh
         refine' kcf_range (fun k => offv ns ms k.toNat) (fun ck ct cI coI cC coC cD cm cys ch ctk cE clo chi chC chx cF cN coff cne cMark => ?_) ?_
         all_goals (try (simp only [LCg.Off3, and_true] at coff))
         focus
          have hmb := hmv.2.2 ck.toNat (idx_lt clo chi)
          try k_fold
          k_steps
          all_goals (refine kcf_el ?_ rfl rfl; rfl)
         unfold KPfDone
         intro ys hys
         rw [rk_map ns.length (offv ns ms)] at hys
         generalize hLO : (List.range ns.length).map (offv ns ms) = LO at hys
         have hlo : LO.length = ns.length := by rw [← hLO]; simp
         try dsimp only
         try k_fold
         k_steps
         k_dflt (refine' within_walk hpos hnn ?Bw ?Fw ?Xw ?Nw ?Tw ?hckw ?hlw hI8 ?hl2w zI hn5 hml ?hs0w ?hs7w ?hdpw ?_; (case Bw => k_asm); (case Fw => k_asm); (case Xw => k_asm); (case Nw => k_asm); (case Tw => k_asm); (case hckw => exact rfl); (case hlw => exact News.isList (by k_asm) (by k_mem)); (case hl2w => exact News.isList (by k_asm) (by k_mem)); (case hs0w => omega); (case hs7w => omega); (case hdpw => ktr_room))
         intro h8 tk8 F8 N8
         generalize hbq : (List.range ns.length).all (okq ns ms) = bq
         try dsimp only
         k_steps
         · (rename _ ∈ LO => q1)
           (rename ∀ a, a ∈ LO → a ≤ _ => q2)
           (rename (_ != _) = true => q3)
           have q4 := within_max hpos hm7 hLO q1 q2
           rw [hbq] at q4
           exact absurd q3 (by rw [q4]; simp)
         · (rename Fr _ _ _ _ => zF)
           (rename News _ _ _ _ => zN)
           dsimp only [MPost]
           refine ⟨_, _, _, _, _, rfl, zF, kst_newsOf zN (by kst_in), dM9, ?_⟩
           intro z g
           have g4 := g
           simp only [List.contains_cons, List.contains_nil, Bool.or_false, Bool.or_eq_false_iff, beq_eq_false_iff_ne, ne_eq] at g4
           simp only [g, g4.1, g4.2, if_false, Bool.false_eq_true]
       · intro u3 h3 tk3 oM3 v3 dM3 F3 N3
         clear wF wN wR
         simp only [List.cons_append, List.nil_append] at N3
         k_steps
         (rename Fr _ _ _ _ => zF)
         (rename News _ _ _ _ => zN)
         dsimp only [MPost]
         refine ⟨_, _, _, oM3, v3, rfl, zF, zN, dM3, ?_⟩
         intro z g
         have g4 := g
         simp only [List.contains_cons, List.contains_nil, Bool.or_false, Bool.or_eq_false_iff, beq_eq_false_iff_ne, ne_eq] at g4
         have g5 : [Str.ofString "j", Str.ofString "off"].contains z = false := by simp only [List.contains_cons, List.contains_nil, Bool.or_false, Bool.or_eq_false_iff, beq_eq_false_iff_ne, ne_eq]; exact g4.2
         simp only [g, g5, g4.1, if_false, Bool.false_eq_true]
     · intro u2 h2 tk2 oM2 v2 dM2 F2 N2
       clear wF wN wR
       k_steps)
