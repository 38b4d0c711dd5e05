import PyProof.Rows.All
import Wide.All
import OpenK.AllK
import Wide.FinOn
import PySem.Challenge.RW_ad6014_01
set_option Elab.async false
/-! part Hd -/
section
open PySem PySem.W PyProof.Rows
namespace Mine
set_option maxRecDepth 100000
set_option maxHeartbeats 8000000
open_top hd for PySem.Challenge.rw_ad6014_01
end Mine
end
theorem Mine.calm : True := by
  w_top off
  trivial
/-! part SetMath -/
section
open PySem
namespace Mine

/-! the probes of a set's table, apart from any heap -/
abbrev SPr := SetTable.Probe
def tbl (m : Nat) : SetTable := { mask := m, place := #[], dummies := #[], finger := 0, led := true, moves := 0, plain := true }
def adv (m : Nat) (p : SPr) : SPr := (tbl m).advance p
def advN (m : Nat) : Nat → SPr → SPr
  | 0, p => p
  | k + 1, p => advN m k (adv m p)
def pstart (m : Nat) (h : Int) : SPr := (tbl m).probeStart h
def sq (m : Nat) (h : Int) (k : Nat) : Nat := (advN m k (pstart m h)).j
theorem advance_eq (t : SetTable) (p : SPr) : t.advance p = adv t.mask p := rfl
theorem pstart_eq (t : SetTable) (h : Int) : t.probeStart h = pstart t.mask h := rfl
theorem advN_succ (m k : Nat) (p : SPr) : advN m (k + 1) p = adv m (advN m k p) := by
  induction k generalizing p with
  | zero => rfl
  | succ k ih => exact ih (adv m p)
theorem advN_add (m a b : Nat) (p : SPr) : advN m (a + b) p = advN m b (advN m a p) := by
  induction a generalizing p with
  | zero => rw [Nat.zero_add]; rfl
  | succ a ih => rw [Nat.succ_add]; exact ih (adv m p)
theorem adv_dummy (m : Nat) (p : SPr) : (adv m p).dummy = p.dummy := by
  unfold adv SetTable.advance
  split <;> rfl

/-! the binary search -/
theorem getD_lt {xs : Array Nat} {i d : Nat} (h : i < xs.size) : xs.getD i d = xs[i] := by simp [Array.getD, h]
theorem sorted_get {xs : Array Nat} (hs : xs.toList.Pairwise (· < ·)) {i k : Nat} (hik : i < k) (hk : k < xs.size) : xs[i]'(Nat.lt_trans hik hk) < xs[k] := by
  have := List.pairwise_iff_getElem.mp hs i k (by simpa using Nat.lt_trans hik hk) (by simpa using hk) hik
  simpa using this
theorem below_go {xs : Array Nat} (j : Nat) (hs : xs.toList.Pairwise (· < ·)) : ∀ (fuel lo hi : Nat), lo ≤ hi → hi ≤ xs.size → hi - lo ≤ fuel →
    (∀ i (h : i < xs.size), i < lo → xs[i] < j) → (∀ i (h : i < xs.size), hi ≤ i → j ≤ xs[i]) →
    SetTable.below.go xs j fuel lo hi ≤ xs.size ∧ (∀ i (h : i < xs.size), i < SetTable.below.go xs j fuel lo hi → xs[i] < j) ∧ (∀ i (h : i < xs.size), SetTable.below.go xs j fuel lo hi ≤ i → j ≤ xs[i]) := by
  intro fuel
  induction fuel with
  | zero =>
    intro lo hi h1 h2 h3 h4 h5
    have e : lo = hi := by omega
    subst e
    unfold SetTable.below.go
    exact ⟨h2, h4, h5⟩
  | succ fuel ih =>
    intro lo hi h1 h2 h3 h4 h5
    unfold SetTable.below.go
    by_cases hlt : lo < hi
    · rw [if_pos hlt]
      dsimp only
      have hm : (lo + hi) / 2 < xs.size := by omega
      rw [getD_lt hm]
      by_cases hc : xs[(lo + hi) / 2] < j
      · rw [if_pos hc]
        refine ih _ _ (by omega) h2 (by omega) (fun i hi' hlo => ?_) h5
        by_cases e : i = (lo + hi) / 2
        · subst e; exact hc
        · exact Nat.lt_trans (sorted_get hs (by omega) hm) hc
      · rw [if_neg hc]
        refine ih _ _ (by omega) (by omega) (by omega) h4 (fun i hi' hlo => ?_)
        by_cases e : i = (lo + hi) / 2
        · subst e; omega
        · exact Nat.le_trans (Nat.not_lt.mp hc) (Nat.le_of_lt (sorted_get hs (by omega) hi'))
    · rw [if_neg hlt]
      have e : lo = hi := by omega
      subst e
      exact ⟨h2, h4, h5⟩
theorem below_spec {xs : Array Nat} (j : Nat) (hs : xs.toList.Pairwise (· < ·)) :
    SetTable.below xs j ≤ xs.size ∧ (∀ i (h : i < xs.size), i < SetTable.below xs j → xs[i] < j) ∧ (∀ i (h : i < xs.size), SetTable.below xs j ≤ i → j ≤ xs[i]) :=
  below_go j hs xs.size 0 xs.size (Nat.zero_le _) (Nat.le_refl _) (by omega) (fun _ _ h => absurd h (Nat.not_lt_zero _)) (fun i h h' => absurd h (Nat.not_lt.mpr h'))
theorem below_at {xs : Array Nat} (hs : xs.toList.Pairwise (· < ·)) {i : Nat} (hi : i < xs.size) : SetTable.below xs xs[i] = i := by
  obtain ⟨h1, h2, h3⟩ := below_spec xs[i] hs
  rcases Nat.lt_trichotomy (SetTable.below xs xs[i]) i with h | h | h
  · have a := h3 (SetTable.below xs xs[i]) (Nat.lt_trans h hi) (Nat.le_refl _)
    have b := sorted_get hs h hi
    omega
  · exact h
  · have := h2 i hi h; omega
theorem slot_live {t : SetTable} (hs : t.place.toList.Pairwise (· < ·)) {i : Nat} (hi : i < t.place.size) : t.slot t.place[i] = .live i := by
  unfold SetTable.slot
  dsimp only
  rw [below_at hs hi]
  simp [hi]
theorem slot_empty {t : SetTable} (hd : t.dummies = #[]) {j : Nat} (hj : j ∉ t.place.toList) : t.slot j = .empty := by
  unfold SetTable.slot
  dsimp only
  have h1 : (t.place[SetTable.below t.place j]? == some j) = false := by
    cases e : t.place[SetTable.below t.place j]? with
    | none => rfl
    | some x =>
      have hx : x ∈ t.place.toList := by
        rw [← Array.getElem?_toList] at e
        exact List.mem_of_getElem? e
      have : x ≠ j := fun q => hj (q ▸ hx)
      simpa using this
  rw [h1]
  have h2 : SetTable.has t.dummies j = false := by rw [hd]; rfl
  rw [h2]
  rfl

/-! one probe of the table -/
def occ (t : SetTable) (j : Nat) : Prop := j ∈ t.place.toList
theorem occ_iff {t : SetTable} {j : Nat} : occ t j ↔ ∃ i, ∃ h : i < t.place.size, t.place[i] = j := by
  unfold occ
  rw [List.mem_iff_getElem]
  constructor
  · rintro ⟨i, h, e⟩
    exact ⟨i, by simpa using h, by simpa using e⟩
  · rintro ⟨i, h, e⟩
    exact ⟨i, by simpa using h, by simpa using e⟩
theorem probe_go {t : SetTable} (hs : t.place.toList.Pairwise (· < ·)) (hd : t.dummies = #[]) (hashAt : Nat → Int) (h : Int) : ∀ (fuel : Nat) (p : SPr), p.dummy = none →
    (∃ k, k < fuel ∧ ¬ occ t (advN t.mask k p).j) →
    ∃ k, (∀ k', k' < k → occ t (advN t.mask k' p).j ∧ ∀ i (hi : i < t.place.size), t.place[i] = (advN t.mask k' p).j → hashAt i ≠ h) ∧
      ((¬ occ t (advN t.mask k p).j ∧ SetTable.probe.go t hashAt h fuel p = some (.empty (advN t.mask k p).j none)) ∨
       (∃ i, ∃ hi : i < t.place.size, t.place[i] = (advN t.mask k p).j ∧ hashAt i = h ∧ SetTable.probe.go t hashAt h fuel p = some (.candidate (advN t.mask k p).j i (advN t.mask (k + 1) p)))) := by
  intro fuel
  induction fuel with
  | zero => rintro p _ ⟨k, hk, _⟩; exact absurd hk (Nat.not_lt_zero _)
  | succ fuel ih =>
    rintro p hp ⟨k, hk, hk'⟩
    unfold SetTable.probe.go
    by_cases ho : occ t p.j
    · obtain ⟨i, hi, e⟩ := occ_iff.mp ho
      rw [← e, slot_live hs hi]
      dsimp only
      by_cases hh : hashAt i = h
      · refine ⟨0, fun _ h => absurd h (Nat.not_lt_zero _), .inr ⟨i, hi, e, hh, ?_⟩⟩
        rw [if_pos (by simpa using hh)]
        show some (SetTable.Met.candidate t.place[i] i (t.advance p)) = some (.candidate p.j i (adv t.mask p))
        rw [e]; rfl
      · rw [if_neg (by simpa using hh)]
        cases k with
        | zero => exact absurd ho hk'
        | succ k =>
          obtain ⟨q, h1, h2⟩ := ih (t.advance p) (by rw [advance_eq, adv_dummy]; exact hp) ⟨k, Nat.lt_of_succ_lt_succ hk, hk'⟩
          refine ⟨q + 1, fun k' hq => ?_, h2⟩
          cases k' with
          | zero =>
            refine ⟨ho, fun i' hi' e' => ?_⟩
            have : i' = i := by
              have e2 : t.place[i'] = t.place[i] := e'.trans e.symm
              rcases Nat.lt_trichotomy i' i with q | q | q
              · have := sorted_get hs q hi; omega
              · exact q
              · have := sorted_get hs q hi'; omega
            subst this; exact hh
          | succ k' => exact h1 k' (Nat.lt_of_succ_lt_succ hq)
    · rw [slot_empty hd ho]
      dsimp only
      exact ⟨0, fun _ h => absurd h (Nat.not_lt_zero _), .inl ⟨ho, by rw [hp]; rfl⟩⟩
end Mine
end
/-! part SetCov -/
section
open PySem
namespace Mine

/-! the probes reach every slot -/
def msk (m : Nat) : Prop := m = 7 ∨ m = 31 ∨ m = 127
def it1 (m i : Nat) : Nat := (5 * i + 1) % (m + 1)
def itN (m : Nat) : Nat → Nat → Nat
  | 0, i => i
  | k + 1, i => itN m k (it1 m i)
theorem itN_add (m a b i : Nat) : itN m (a + b) i = itN m b (itN m a i) := by
  induction a generalizing i with
  | zero => rw [Nat.zero_add]; rfl
  | succ a ih => rw [Nat.succ_add]; exact ih (it1 m i)
def orb (m : Nat) : Nat → Nat → List Nat
  | 0, _ => []
  | n + 1, i => i :: orb m n (it1 m i)
theorem mem_orb {m x : Nat} : ∀ {n i : Nat}, x ∈ orb m n i → ∃ a, a < n ∧ itN m a i = x
  | 0, _, h => nomatch h
  | n + 1, i, h => by
    rcases List.mem_cons.mp h with rfl | h
    · exact ⟨0, Nat.succ_pos _, rfl⟩
    · obtain ⟨a, ha, e⟩ := mem_orb h
      exact ⟨a + 1, Nat.succ_lt_succ ha, e⟩
theorem orb_all {m : Nat} (hm : msk m) : ((List.range (m + 1)).all fun x => (orb m (m + 1) 0).contains x) = true ∧ itN m (m + 1) 0 = 0 := by
  rcases hm with rfl | rfl | rfl <;> exact ⟨by decide +kernel, by decide +kernel⟩
theorem cyc {m : Nat} (hm : msk m) {i j : Nat} (hi : i ≤ m) (hj : j ≤ m) : ∃ r, r ≤ m ∧ itN m r i = j := by
  obtain ⟨h1, h2⟩ := orb_all hm
  have get : ∀ x, x ≤ m → ∃ a, a < m + 1 ∧ itN m a 0 = x := fun x hx => by
    have := List.all_eq_true.mp h1 x (List.mem_range.mpr (Nat.lt_succ_of_le hx))
    exact mem_orb (by simpa using this)
  obtain ⟨a, ha, ea⟩ := get i hi
  obtain ⟨b, hb, eb⟩ := get j hj
  by_cases hab : a ≤ b
  · refine ⟨b - a, by omega, ?_⟩
    rw [← ea, ← itN_add, Nat.add_sub_of_le hab, eb]
  · refine ⟨m + 1 - a + b, by omega, ?_⟩
    rw [← ea, ← itN_add, show a + (m + 1 - a + b) = (m + 1) + b by omega, itN_add, h2, eb]

def nextLeap (m : Nat) (p : SPr) : SPr :=
  { j := (SetTable.leap m p.i p.perturb).1, more := SetTable.runEnd m (SetTable.leap m p.i p.perturb).1 - (SetTable.leap m p.i p.perturb).1, i := (SetTable.leap m p.i p.perturb).1, perturb := (SetTable.leap m p.i p.perturb).2, dummy := p.dummy }
theorem adv_zero {m : Nat} {p : SPr} (h : p.more = 0) : adv m p = nextLeap m p := by
  unfold adv SetTable.advance nextLeap
  rw [if_neg (by omega)]
  rfl
theorem adv_pos {m : Nat} {p : SPr} (h : 0 < p.more) : adv m p = { p with j := p.j + 1, more := p.more - 1 } := by
  unfold adv SetTable.advance
  rw [if_pos h]
theorem advN_run (m : Nat) : ∀ (a : Nat) (p : SPr), a ≤ p.more → advN m a p = { p with j := p.j + a, more := p.more - a }
  | 0, p, _ => by cases p; rfl
  | a + 1, p, h => by
    show advN m a (adv m p) = _
    rw [adv_pos (by omega), advN_run m a _ (by show a ≤ p.more - 1; omega)]
    show SetTable.Probe.mk (p.j + 1 + a) (p.more - 1 - a) p.i p.perturb p.dummy = SetTable.Probe.mk (p.j + (a + 1)) (p.more - (a + 1)) p.i p.perturb p.dummy
    rw [show p.j + 1 + a = p.j + (a + 1) by omega, show p.more - 1 - a = p.more - (a + 1) by omega]
theorem advN_leap (m : Nat) (p : SPr) : advN m (p.more + 1) p = nextLeap m p := by
  rw [advN_succ, advN_run m p.more p (Nat.le_refl _), adv_zero (by show p.more - p.more = 0; omega)]
  rfl
def leapN (m : Nat) : Nat → SPr → SPr
  | 0, p => p
  | n + 1, p => leapN m n (nextLeap m p)
theorem leapN_add (m a b : Nat) (p : SPr) : leapN m (a + b) p = leapN m b (leapN m a p) := by
  induction a generalizing p with
  | zero => rw [Nat.zero_add]; rfl
  | succ a ih => rw [Nat.succ_add]; exact ih (nextLeap m p)
def goodP (m : Nat) (p : SPr) : Prop := p.more ≤ 9 ∧ p.i ≤ m
theorem runEnd_le (m i : Nat) : SetTable.runEnd m i - i ≤ 9 := by unfold SetTable.runEnd; split <;> omega
theorem goodP_leap (m : Nat) (p : SPr) : goodP m (nextLeap m p) := ⟨runEnd_le _ _, Nat.le_of_lt_succ (Nat.mod_lt _ (Nat.succ_pos _))⟩
theorem leapN_adv {m : Nat} : ∀ (n : Nat) {p : SPr}, goodP m p → ∃ k, k ≤ 10 * n ∧ advN m k p = leapN m n p ∧ goodP m (leapN m n p)
  | 0, p, h => ⟨0, Nat.le_refl _, rfl, h⟩
  | n + 1, p, h => by
    obtain ⟨k, hk, e, g⟩ := leapN_adv n (goodP_leap m p)
    refine ⟨p.more + 1 + k, by have := h.1; omega, ?_, g⟩
    rw [advN_add, advN_leap, e]
    rfl
theorem leapN_perturb (m : Nat) : ∀ (n : Nat) (p : SPr), (leapN m n p).perturb = p.perturb / 32 ^ n
  | 0, p => by simp [leapN]
  | n + 1, p => by
    show (leapN m n (nextLeap m p)).perturb = _
    rw [leapN_perturb m n]
    show p.perturb / 32 / 32 ^ n = _
    rw [Nat.div_div_eq_div_mul, Nat.pow_succ, Nat.mul_comm]
theorem leapN_it {m : Nat} : ∀ (n : Nat) {p : SPr}, p.perturb = 0 → (leapN m n p).i = itN m n p.i
  | 0, _, _ => rfl
  | n + 1, p, h => by
    show (leapN m n (nextLeap m p)).i = itN m n (it1 m p.i)
    rw [leapN_it n (by show p.perturb / 32 = 0; rw [h])]
    congr 1
    show (p.i * 5 + 1 + p.perturb / 32) % (m + 1) = (5 * p.i + 1) % (m + 1)
    rw [h, Nat.zero_div, Nat.add_zero, Nat.mul_comm]
theorem leapN_j {m : Nat} : ∀ (n : Nat) (p : SPr), 0 < n → (leapN m n p).j = (leapN m n p).i
  | 0, _, h => absurd h (Nat.lt_irrefl _)
  | 1, _, _ => rfl
  | n + 2, p, _ => leapN_j (n + 1) (nextLeap m p) (Nat.succ_pos _)
theorem bits_lt (h : Int) : SetTable.bits h < 2 ^ 64 := by
  unfold SetTable.bits
  have h1 := Int.emod_nonneg h (show (2 ^ 64 : Int) ≠ 0 by decide)
  have h2 := Int.emod_lt_of_pos h (show (0 : Int) < 2 ^ 64 by decide)
  generalize h % 2 ^ 64 = z at h1 h2
  have : (2 : Int) ^ 64 = 18446744073709551616 := by decide
  have : (2 : Nat) ^ 64 = 18446744073709551616 := by decide
  omega
theorem pstart_good (m : Nat) (h : Int) : goodP m (pstart m h) ∧ (pstart m h).perturb < 2 ^ 64 ∧ (pstart m h).dummy = none :=
  ⟨⟨runEnd_le _ _, Nat.le_of_lt_succ (Nat.mod_lt _ (Nat.succ_pos _))⟩, bits_lt h, rfl⟩
theorem cover {m : Nat} (hm : msk m) {p : SPr} (hg : goodP m p) (hp : p.perturb < 2 ^ 64) {j : Nat} (hj : j ≤ m) : ∃ k, k < 10 * SetTable.turns m ∧ (advN m k p).j = j := by
  obtain ⟨k, hk, e, g⟩ := leapN_adv (m := m) 13 hg
  have h0 : (leapN m 13 p).perturb = 0 := by
    rw [leapN_perturb]
    apply Nat.div_eq_of_lt
    exact Nat.lt_of_lt_of_le hp (by decide)
  obtain ⟨r, hr, er⟩ := cyc hm g.2 hj
  obtain ⟨k2, hk2, e2, g2⟩ := leapN_adv (m := m) r g
  refine ⟨k + k2, by unfold SetTable.turns; omega, ?_⟩
  rw [advN_add, e, e2, ← leapN_add, leapN_j _ _ (by omega), leapN_add, leapN_it r h0, er]
end Mine
end
/-! part SetLay -/
section
open PySem
namespace Mine

/-! the table laid anew -/
theorem cover_leap {m : Nat} (hm : msk m) {p : SPr} (hg : goodP m p) (hp : p.perturb < 2 ^ 64) {j : Nat} (hj : j ≤ m) : ∃ b, b < SetTable.turns m ∧ (leapN m b p).i = j := by
  obtain ⟨k, hk, e, g⟩ := leapN_adv (m := m) 13 hg
  have h0 : (leapN m 13 p).perturb = 0 := by
    rw [leapN_perturb]
    apply Nat.div_eq_of_lt
    exact Nat.lt_of_lt_of_le hp (by decide)
  obtain ⟨r, hr, er⟩ := cyc hm g.2 hj
  exact ⟨13 + r, by unfold SetTable.turns; omega, by rw [leapN_add, leapN_it r h0, er]⟩
def leapStart (m : Nat) (p : SPr) : Prop := p.j = p.i ∧ p.more = SetTable.runEnd m p.i - p.i
theorem leapStart_next (m : Nat) (p : SPr) : leapStart m (nextLeap m p) := ⟨rfl, rfl⟩
theorem leapStart_start (m : Nat) (h : Int) : leapStart m (pstart m h) := ⟨rfl, rfl⟩
def ownAt (owner : Array (Option Nat)) (j : Nat) : Option Nat := owner.getD j (some 0)
theorem runEnd_ge (m i : Nat) : i ≤ SetTable.runEnd m i := by unfold SetTable.runEnd; split <;> omega
theorem runEnd_le_m {m i : Nat} (h : i ≤ m) : SetTable.runEnd m i ≤ m := by unfold SetTable.runEnd; split <;> omega
theorem free_go {m : Nat} {owner : Array (Option Nat)} : ∀ (fuel : Nat) (p : SPr), leapStart m p → (∃ b, b < fuel ∧ ownAt owner (leapN m b p).i = none) →
    ∃ K, SetTable.layClean.free m owner fuel p.i p.perturb = some (advN m K p).j ∧ ownAt owner (advN m K p).j = none ∧ ∀ K', K' < K → (ownAt owner (advN m K' p).j).isSome = true := by
  intro fuel
  induction fuel with
  | zero => rintro p _ ⟨b, hb, _⟩; exact absurd hb (Nat.not_lt_zero _)
  | succ fuel ih =>
    rintro p ⟨hj, hmo⟩ ⟨b, hb, hfree⟩
    unfold SetTable.layClean.free
    have hrun := runEnd_ge m p.i
    have at' : ∀ k, k ≤ p.more → (advN m k p).j = p.i + k := fun k hk => by rw [advN_run m k p hk, ← hj]
    cases hf : (List.range (SetTable.runEnd m p.i + 1 - p.i)).find? (fun k => (owner.getD (p.i + k) (some 0)).isNone) with
    | some k =>
      obtain ⟨h1, h2, h3⟩ := List.find?_range_eq_some.mp hf
      have h2 := List.mem_range.mp h2
      have hk : k ≤ p.more := by omega
      refine ⟨k, ?_, ?_, fun K' hK' => ?_⟩
      · dsimp only; rw [at' k hk]
      · rw [at' k hk]; simpa [ownAt] using h1
      · rw [at' K' (by omega)]
        have := h3 K' hK'
        cases e : ownAt owner (p.i + K') with
        | none => unfold ownAt at e; rw [e] at this; cases this
        | some _ => rfl
    | none =>
      have h3 := List.find?_eq_none.mp hf
      have own : ∀ k, k ≤ p.more → (ownAt owner (p.i + k)).isSome = true := fun k hk => by
        have := h3 k (List.mem_range.mpr (by omega))
        cases e : ownAt owner (p.i + k) with
        | none => unfold ownAt at e; rw [e] at this; exact absurd rfl this
        | some _ => rfl
      cases b with
      | zero =>
        exfalso
        have := own 0 (Nat.zero_le _)
        rw [Nat.add_zero] at this
        rw [show (leapN m 0 p).i = p.i from rfl] at hfree
        rw [hfree] at this; cases this
      | succ b =>
        obtain ⟨K, e1, e2, e3⟩ := ih (nextLeap m p) (leapStart_next m p) ⟨b, Nat.lt_of_succ_lt_succ hb, hfree⟩
        have sh : ∀ k, advN m (p.more + 1 + k) p = advN m k (nextLeap m p) := fun k => by rw [advN_add, advN_leap]
        refine ⟨p.more + 1 + K, by rw [sh]; exact e1, by rw [sh]; exact e2, fun K' hK' => ?_⟩
        by_cases hle : K' ≤ p.more
        · rw [at' K' hle]; exact own K' hle
        · obtain ⟨d, rfl⟩ := Nat.exists_eq_add_of_lt (Nat.lt_of_not_le hle)
          have hd : p.more + d + 1 = p.more + 1 + d := by omega
          rw [hd, sh]
          exact e3 d (by omega)
theorem free_spec {m : Nat} (hm : msk m) {owner : Array (Option Nat)} (h : Int) {j₀ : Nat} (hj₀ : j₀ ≤ m) (hfree : ownAt owner j₀ = none) :
    ∃ K, SetTable.layClean.free m owner (SetTable.turns m) (SetTable.bits h % (m + 1)) (SetTable.bits h) = some (sq m h K) ∧ ownAt owner (sq m h K) = none ∧ ∀ K', K' < K → (ownAt owner (sq m h K')).isSome = true := by
  obtain ⟨g1, g2, g3⟩ := pstart_good m h
  obtain ⟨b, hb, e⟩ := cover_leap hm g1 g2 hj₀
  exact free_go (SetTable.turns m) (pstart m h) (leapStart_start m h) ⟨b, hb, by rw [e]; exact hfree⟩

structure LInv (m : Nat) (hs : List Int) (owner : Array (Option Nat)) (k : Nat) : Prop where
  size : owner.size = m + 1
  cnt : k = hs.length
  lt : ∀ j a, j ≤ m → ownAt owner j = some a → a < k
  inj : ∀ j j' a, j ≤ m → j' ≤ m → ownAt owner j = some a → ownAt owner j' = some a → j = j'
  all : ∀ a, a < k → ∃ j, j ≤ m ∧ ownAt owner j = some a
  reach : ∀ j a h, j ≤ m → ownAt owner j = some a → hs[a]? = some h → ∃ K, sq m h K = j ∧ ∀ K', K' < K → (ownAt owner (sq m h K')).isSome = true
theorem ownAt_out {owner : Array (Option Nat)} {j : Nat} (h : owner.size ≤ j) : ownAt owner j = some 0 := by
  unfold ownAt; simp [Array.getD, Nat.not_lt.mpr h]
theorem LInv.room {m : Nat} {hs : List Int} {owner : Array (Option Nat)} {k : Nat} (I : LInv m hs owner k) (hk : k ≤ m) : ∃ j, j ≤ m ∧ ownAt owner j = none := by
  refine Classical.byContradiction fun hn => ?_
  have hall : ∀ j, j ≤ m → ∃ a, ownAt owner j = some a := fun j hj => by
    cases e : ownAt owner j with
    | some a => exact ⟨a, rfl⟩
    | none => exact absurd ⟨j, hj, e⟩ hn
  have hnd : ((List.range (m + 1)).map fun j => (ownAt owner j).getD 0).Nodup := by
    rw [List.nodup_iff_pairwise_ne, List.pairwise_map]
    refine List.Pairwise.imp_of_mem ?_ (List.nodup_iff_pairwise_ne.mp List.nodup_range)
    intro a b ha hb hab e
    have ha' := Nat.le_of_lt_succ (List.mem_range.mp ha)
    have hb' := Nat.le_of_lt_succ (List.mem_range.mp hb)
    obtain ⟨x, hx⟩ := hall a ha'
    obtain ⟨y, hy⟩ := hall b hb'
    rw [hx, hy] at e
    simp only [Option.getD_some] at e
    subst e
    exact hab (I.inj a b x ha' hb' hx hy)
  have hsub : ((List.range (m + 1)).map fun j => (ownAt owner j).getD 0) ⊆ List.range k := by
    intro x hx
    obtain ⟨j, hj, rfl⟩ := List.mem_map.mp hx
    have hj' := Nat.le_of_lt_succ (List.mem_range.mp hj)
    obtain ⟨a, ha⟩ := hall j hj'
    rw [ha]
    exact List.mem_range.mpr (I.lt j a hj' ha)
  have := List.Nodup.length_le_of_subset hnd hsub
  simp at this
  omega
def layStep (m : Nat) (acc : Option (Array (Option Nat) × Nat)) (h : Int) : Option (Array (Option Nat) × Nat) := do
  let (owner, k) ← acc
  let j ← SetTable.layClean.free m owner (SetTable.turns m) (SetTable.bits h % (m + 1)) (SetTable.bits h)
  pure (owner.setIfInBounds j (some k), k + 1)
theorem layClean_eq (m : Nat) (hashes : Array Int) : SetTable.layClean m hashes = (hashes.toList.foldl (layStep m) (some (Array.replicate (m + 1) none, 0))).map (·.1) := by
  unfold SetTable.layClean
  rw [← Array.foldl_toList]
  rfl
theorem ownAt_set {owner : Array (Option Nat)} {j : Nat} {v : Option Nat} (hj : j < owner.size) (x : Nat) : ownAt (owner.setIfInBounds j v) x = if x = j then v else ownAt owner x := by
  unfold ownAt
  by_cases h : x = j
  · subst h; simp [Array.getD, hj]
  · rw [if_neg h]
    simp only [Array.getD, Array.size_setIfInBounds]
    by_cases hx : x < owner.size
    · simp [hx, Array.getElem_setIfInBounds, Ne.symm h]
    · simp [hx]
theorem LInv.step {m : Nat} (hm : msk m) {hs : List Int} {owner : Array (Option Nat)} {k : Nat} (I : LInv m hs owner k) (hk : k ≤ m) (h : Int) :
    ∃ owner', layStep m (some (owner, k)) h = some (owner', k + 1) ∧ LInv m (hs ++ [h]) owner' (k + 1) := by
  obtain ⟨j₀, hj₀, hfree⟩ := I.room hk
  obtain ⟨K, e1, e2, e3⟩ := free_spec hm h hj₀ hfree
  have hjs : sq m h K < owner.size := by
    refine Nat.lt_of_not_le fun hle => ?_
    rw [ownAt_out hle] at e2; cases e2
  have hjm : sq m h K ≤ m := by have := I.size; omega
  refine ⟨owner.setIfInBounds (sq m h K) (some k), ?_, ?_⟩
  · show (do let j ← SetTable.layClean.free m owner (SetTable.turns m) (SetTable.bits h % (m + 1)) (SetTable.bits h); pure (owner.setIfInBounds j (some k), k + 1) : Option _) = _
    rw [e1]; rfl
  · have get := fun x => ownAt_set (owner := owner) (v := some k) hjs x
    have mono : ∀ x, (ownAt owner x).isSome = true → (ownAt (owner.setIfInBounds (sq m h K) (some k)) x).isSome = true := fun x hx => by
      rw [get]; split
      · rfl
      · exact hx
    have hlen := I.cnt
    refine ⟨by rw [Array.size_setIfInBounds]; exact I.size, by rw [List.length_append, List.length_singleton, hlen], ?_, ?_, ?_, ?_⟩
    · intro j a hj ha
      rw [get] at ha
      split at ha
      · cases ha; exact Nat.lt_succ_self _
      · exact Nat.lt_succ_of_lt (I.lt j a hj ha)
    · intro j j' a hj hj' ha ha'
      rw [get] at ha ha'
      split at ha
      · rename_i ej
        cases ha
        split at ha'
        · rename_i ej'; rw [ej, ej']
        · exact absurd (I.lt j' k hj' ha') (Nat.lt_irrefl _)
      · split at ha'
        · cases ha'; exact absurd (I.lt j k hj ha) (Nat.lt_irrefl _)
        · exact I.inj j j' a hj hj' ha ha'
    · intro a ha
      by_cases e : a = k
      · subst e; exact ⟨_, hjm, by rw [get, if_pos rfl]⟩
      · obtain ⟨j, hj, hja⟩ := I.all a (by omega)
        refine ⟨j, hj, ?_⟩
        rw [get, if_neg]
        · exact hja
        · intro q; rw [q, e2] at hja; cases hja
    · intro j a h' hj ha hh
      rw [get] at ha
      split at ha
      · rename_i ej
        cases ha
        rw [hlen, List.getElem?_append_right (Nat.le_refl _), Nat.sub_self] at hh
        cases hh
        exact ⟨K, ej.symm, fun K' hK' => mono _ (e3 K' hK')⟩
      · have hak := I.lt j a hj ha
        rw [List.getElem?_append_left (by omega)] at hh
        obtain ⟨K2, q1, q2⟩ := I.reach j a h' hj ha hh
        exact ⟨K2, q1, fun K' hK' => mono _ (q2 K' hK')⟩
theorem lay_fold {m : Nat} (hm : msk m) : ∀ (rest hs : List Int) (owner : Array (Option Nat)) (k : Nat), LInv m hs owner k → k + rest.length ≤ m + 1 →
    ∃ owner', rest.foldl (layStep m) (some (owner, k)) = some (owner', k + rest.length) ∧ LInv m (hs ++ rest) owner' (k + rest.length)
  | [], hs, owner, k, I, _ => ⟨owner, rfl, by rw [List.append_nil]; exact I⟩
  | h :: rest, hs, owner, k, I, hl => by
    rw [List.length_cons] at hl
    obtain ⟨o1, e1, I1⟩ := I.step hm (by omega) h
    obtain ⟨o2, e2, I2⟩ := lay_fold hm rest (hs ++ [h]) o1 (k + 1) I1 (by omega)
    refine ⟨o2, ?_, ?_⟩
    · rw [List.foldl_cons, e1, e2, List.length_cons]
      congr 2; omega
    · rw [List.append_assoc] at I2
      rw [List.length_cons]
      have : k + 1 + rest.length = k + (rest.length + 1) := by omega
      rw [← this]
      exact I2
theorem LInv.start (m : Nat) : LInv m [] (Array.replicate (m + 1) none) 0 := by
  have none_ : ∀ j, j ≤ m → ownAt (Array.replicate (m + 1) none) j = none := fun j hj => by
    unfold ownAt; simp [Array.getD, Nat.lt_succ_of_le hj]
  refine ⟨by simp, rfl, ?_, ?_, ?_, ?_⟩
  · intro j a hj ha; rw [none_ j hj] at ha; cases ha
  · intro j j' a hj _ ha; rw [none_ j hj] at ha; cases ha
  · intro a ha; exact absurd ha (Nat.not_lt_zero _)
  · intro j a h hj ha; rw [none_ j hj] at ha; cases ha
theorem layClean_spec {m : Nat} (hm : msk m) (hashes : Array Int) (hl : hashes.size ≤ m + 1) : ∃ owner, SetTable.layClean m hashes = some owner ∧ LInv m hashes.toList owner hashes.size := by
  obtain ⟨o, e, I⟩ := lay_fold hm hashes.toList [] _ 0 (LInv.start m) (by simpa using hl)
  refine ⟨o, ?_, ?_⟩
  · rw [layClean_eq, e]; rfl
  · simpa using I
end Mine
end
/-! part SetTab -/
section
open PySem
namespace Mine

/-! the table beside its entries -/
structure Tab0 (es : List (Int × Value)) (t : SetTable) : Prop where
  size : t.place.toList.length = es.length
  sorted : t.place.toList.Pairwise (· < ·)
  le : ∀ j, occ t j → j ≤ t.mask
  dum : t.dummies = #[]
  plain : t.plain = true
  mask : msk t.mask
  fill : es.length ≤ t.mask
  reach : ∀ q ∈ t.place.toList.zip es, ∃ K, sq t.mask q.2.1 K = q.1 ∧ ∀ K', K' < K → occ t (sq t.mask q.2.1 K')
structure Tab (es : List (Int × Value)) (t : SetTable) : Prop extends Tab0 es t where
  room : es.length * 5 < t.mask * 3

theorem insertAt_toList {α : Type} (xs : Array α) (p : Nat) (x : α) : (SetTable.insertAt xs p x).toList = xs.toList.take p ++ x :: xs.toList.drop p := by
  unfold SetTable.insertAt
  simp [Array.toList_extract, List.take_of_length_le]
theorem perm_insert {α : Type} (l : List α) (p : Nat) (x : α) : (l.take p ++ x :: l.drop p).Perm (x :: l) := by
  have h := List.perm_middle (a := x) (l₁ := l.take p) (l₂ := l.drop p)
  rwa [List.take_append_drop] at h
theorem zip_insert {α β : Type} (p : Nat) (x : α) (y : β) : ∀ (a : List α) (b : List β), a.length = b.length → (a.take p ++ x :: a.drop p).zip (b.take p ++ y :: b.drop p) = (a.zip b).take p ++ (x, y) :: (a.zip b).drop p := by
  induction p with
  | zero => intro a b _; simp
  | succ p ih =>
    intro a b h
    cases a with
    | nil => cases b with
      | nil => simp
      | cons _ _ => simp at h
    | cons a₁ a => cases b with
      | nil => simp at h
      | cons b₁ b => simpa using ih a b (by simpa using h)
theorem put_eq {t : SetTable} (hd : t.dummies = #[]) (j : Nat) : t.put j = ({ t with place := SetTable.insertAt t.place (SetTable.below t.place j) j }, SetTable.below t.place j) := by
  unfold SetTable.put
  rw [hd]
  have : SetTable.has #[] j = false := rfl
  dsimp only
  rw [this]
  simp only [Bool.false_eq_true, if_false]
theorem mem_insert {α : Type} {l : List α} {p : Nat} {x y : α} : y ∈ l.take p ++ x :: l.drop p ↔ y = x ∨ y ∈ l := by
  rw [(perm_insert l p x).mem_iff, List.mem_cons]
theorem sorted_insert {xs : Array Nat} (hs : xs.toList.Pairwise (· < ·)) {j : Nat} (hj : j ∉ xs.toList) : (SetTable.insertAt xs (SetTable.below xs j) j).toList.Pairwise (· < ·) := by
  obtain ⟨h1, h2, h3⟩ := below_spec j hs
  rw [insertAt_toList]
  have lo : ∀ a ∈ xs.toList.take (SetTable.below xs j), a < j := fun a ha => by
    obtain ⟨i, hi, e⟩ := List.mem_iff_getElem.mp ha
    rw [List.length_take] at hi
    rw [List.getElem_take] at e
    have := h2 i (by simp at hi; omega) (by omega)
    rw [← e]; simpa using this
  have hi : ∀ a ∈ xs.toList.drop (SetTable.below xs j), j < a := fun a ha => by
    have hm := List.mem_of_mem_drop ha
    obtain ⟨i, hi, e⟩ := List.mem_iff_getElem.mp ha
    rw [List.length_drop] at hi
    rw [List.getElem_drop] at e
    have := h3 (SetTable.below xs j + i) (by simp at hi; omega) (by omega)
    have h4 : j ≤ a := by rw [← e]; simpa using this
    rcases Nat.lt_or_eq_of_le h4 with q | q
    · exact q
    · exact absurd (q ▸ hm) hj
  have ht := List.take_append_drop (SetTable.below xs j) xs.toList
  rw [← ht] at hs
  obtain ⟨p1, p2, p3⟩ := List.pairwise_append.mp hs
  refine List.pairwise_append.mpr ⟨p1, List.pairwise_cons.mpr ⟨hi, p2⟩, fun a ha b hb => ?_⟩
  rcases List.mem_cons.mp hb with rfl | hb
  · exact lo a ha
  · exact p3 a ha b hb

/-- an entry put at a free slot that its own probes come to first -/
theorem Tab.put {es : List (Int × Value)} {t : SetTable} (T : Tab es t) {j : Nat} (hj : ¬ occ t j) (hjm : j ≤ t.mask) {h : Int} {x : Value} {K : Nat} (hK : sq t.mask h K = j) (hocc : ∀ K', K' < K → occ t (sq t.mask h K')) {t' : SetTable} (ht' : t' = { t with place := SetTable.insertAt t.place (SetTable.below t.place j) j }) :
    Tab0 (es.take (SetTable.below t.place j) ++ (h, x) :: es.drop (SetTable.below t.place j)) t' := by
  subst ht'
  have occ' : ∀ y, occ { t with place := SetTable.insertAt t.place (SetTable.below t.place j) j } y ↔ y = j ∨ occ t y := fun y => by
    unfold occ
    dsimp only
    rw [insertAt_toList, mem_insert]
  have hm : t.mask = 7 ∨ t.mask = 31 ∨ t.mask = 127 := T.mask
  refine ⟨?_, sorted_insert T.sorted hj, fun y hy => ?_, T.dum, T.plain, T.mask, ?_, fun q hq => ?_⟩
  · dsimp only
    have := T.size
    rw [insertAt_toList, (perm_insert _ _ _).length_eq, (perm_insert _ _ _).length_eq, List.length_cons, List.length_cons, this]
  · rcases (occ' y).mp hy with rfl | hy
    · exact hjm
    · exact T.le y hy
  · rw [(perm_insert _ _ _).length_eq, List.length_cons]
    have := T.room
    show es.length + 1 ≤ t.mask
    omega
  · dsimp only at hq ⊢
    rw [insertAt_toList, zip_insert _ _ _ _ _ T.size, mem_insert] at hq
    rcases hq with rfl | hq
    · exact ⟨K, hK, fun K' hK' => (occ' _).mpr (.inr (hocc K' hK'))⟩
    · obtain ⟨K2, e, r⟩ := T.reach q hq
      exact ⟨K2, e, fun K' hK' => (occ' _).mpr (.inr (r K' hK'))⟩

theorem map_fst_live (f : Nat → Option Nat) : ∀ l : List Nat, ((l.filterMap fun j => (f j).map (j, ·)).map (·.1)) = l.filter fun j => (f j).isSome
  | [] => rfl
  | j :: l => by
    rw [List.filterMap_cons, List.filter_cons, ← map_fst_live f l]
    cases f j <;> rfl
/-- every probe lies in the table -/
theorem advN_le (m : Nat) : ∀ (k : Nat) (p : SPr), p.more ≤ 9 → p.j + p.more ≤ m → (advN m k p).j ≤ m
  | 0, p, _, h2 => by show p.j ≤ m; omega
  | k + 1, p, g, h2 => by
    show (advN m k (adv m p)).j ≤ m
    by_cases h0 : p.more = 0
    · rw [adv_zero h0]
      have g' := goodP_leap m p
      have r1 := runEnd_ge m (nextLeap m p).i
      have r2 := runEnd_le_m g'.2
      refine advN_le m k _ g'.1 ?_
      show (nextLeap m p).i + (SetTable.runEnd m (nextLeap m p).i - (nextLeap m p).i) ≤ m
      omega
    · rw [adv_pos (Nat.pos_of_ne_zero h0)]
      exact advN_le m k _ (by dsimp only; omega) (by dsimp only; omega)
theorem sq_le (m : Nat) (h : Int) (k : Nat) : sq m h k ≤ m := by
  have g := (pstart_good m h).1
  have r1 := runEnd_ge m (pstart m h).i
  have r2 := runEnd_le_m g.2
  refine advN_le m k _ g.1 ?_
  show (pstart m h).i + (SetTable.runEnd m (pstart m h).i - (pstart m h).i) ≤ m
  omega
theorem laid_spec {m : Nat} (hm : msk m) (f mv : Nat) (led plain : Bool) (hashes : Array Int) (hl : hashes.size ≤ m + 1) :
    ∃ (live : List (Nat × Nat)), SetTable.laid m f mv led plain hashes = some ({ mask := m, place := (live.map (·.1)).toArray, dummies := #[], finger := f, led, moves := mv, plain }, (live.map (·.2)).toArray) ∧
      (live.map (·.1)).Pairwise (· < ·) ∧ (∀ q ∈ live, q.1 ≤ m) ∧ (live.map (·.2)).Perm (List.range hashes.size) ∧
      ∀ q ∈ live, ∀ h, hashes.toList[q.2]? = some h → ∃ K, sq m h K = q.1 ∧ ∀ K', K' < K → sq m h K' ∈ live.map (·.1) := by
  obtain ⟨owner, e, I⟩ := layClean_spec hm hashes hl
  refine ⟨(List.range (m + 1)).filterMap fun j => (owner.getD j none).map (j, ·), ?_, ?_, ?_, ?_, ?_⟩
  · unfold SetTable.laid
    rw [e]; rfl
  · rw [map_fst_live]
    exact List.Pairwise.sublist List.filter_sublist List.pairwise_lt_range
  all_goals
    have gd : ∀ j, j ≤ m → owner.getD j none = ownAt owner j := fun j hj => by
      have := I.size
      unfold ownAt; simp [Array.getD, show j < owner.size by omega]
    have mem : ∀ q, q ∈ ((List.range (m + 1)).filterMap fun j => (owner.getD j none).map (j, ·)) ↔ q.1 ≤ m ∧ ownAt owner q.1 = some q.2 := fun q => by
      rw [List.mem_filterMap]
      constructor
      · rintro ⟨j, hj, e⟩
        have hj' := Nat.le_of_lt_succ (List.mem_range.mp hj)
        rw [gd j hj'] at e
        cases h : ownAt owner j with
        | none => rw [h] at e; cases e
        | some a => rw [h] at e; cases e; exact ⟨hj', h⟩
      · rintro ⟨hj, e⟩
        exact ⟨q.1, List.mem_range.mpr (Nat.lt_succ_of_le hj), by rw [gd _ hj, e]; rfl⟩
  · intro q hq; exact ((mem q).mp hq).1
  · refine (List.perm_ext_iff_of_nodup ?_ List.nodup_range).mpr fun a => ?_
    · have hsort : (((List.range (m + 1)).filterMap fun j => (owner.getD j none).map (j, ·)).map (·.1)).Pairwise (· < ·) := by
        rw [map_fst_live]
        exact List.Pairwise.sublist List.filter_sublist List.pairwise_lt_range
      rw [List.nodup_iff_pairwise_ne, List.pairwise_map]
      rw [List.pairwise_map] at hsort
      refine List.Pairwise.imp_of_mem ?_ hsort
      intro p q hp hq hlt he
      obtain ⟨p1, p2⟩ := (mem p).mp hp
      obtain ⟨q1, q2⟩ := (mem q).mp hq
      rw [he] at p2
      have := I.inj p.1 q.1 q.2 p1 q1 p2 q2
      omega
    · rw [List.mem_map, List.mem_range]
      constructor
      · rintro ⟨q, hq, rfl⟩
        obtain ⟨q1, q2⟩ := (mem q).mp hq
        exact I.lt q.1 q.2 q1 q2
      · intro ha
        obtain ⟨j, hj, e⟩ := I.all a ha
        exact ⟨(j, a), (mem (j, a)).mpr ⟨hj, e⟩, rfl⟩
  · intro q hq h hh
    obtain ⟨q1, q2⟩ := (mem q).mp hq
    obtain ⟨K, e1, e2⟩ := I.reach q.1 q.2 h q1 q2 hh
    refine ⟨K, e1, fun K' hK' => ?_⟩
    have hs := e2 K' hK'
    obtain ⟨a, ha⟩ := Option.isSome_iff_exists.mp hs
    have hle : sq m h K' ≤ m := sq_le m h K'
    exact List.mem_map.mpr ⟨(sq m h K', a), (mem _).mpr ⟨hle, ha⟩, rfl⟩
theorem map_range_getD {α : Type} (l : List α) (d : α) : (List.range l.length).map (fun i => l.getD i d) = l := by
  apply List.ext_getElem
  · simp
  · intro i h1 h2
    simp [h2]
/-- the entries in their new order -/
theorem relaid_spec {es : Array (Int × Value)} {t : SetTable} {m : Nat} (hm : msk m) (hn : es.size * 5 < m * 3) (hp : t.plain = true) {wanted : Nat} (hw : SetTable.sizeAbove wanted = m + 1) :
    ∃ t' order, t.relaid (es.map (·.1)) wanted = some (t', order) ∧ (order.filterMap (es[·]?)).size = es.size ∧ t'.led = t.led ∧ (order.filterMap (es[·]?)).toList.Perm es.toList ∧ Tab (order.filterMap (es[·]?)).toList t' := by
  have hm' : m = 7 ∨ m = 31 ∨ m = 127 := hm
  obtain ⟨live, e, h1, h2, h3, h4⟩ := laid_spec hm t.finger (t.movedTo m) t.led t.plain (es.map (·.1)) (by rw [Array.size_map]; omega)
  rw [Array.size_map] at h3
  have hlt : ∀ q ∈ live, q.2 < es.size := fun q hq => List.mem_range.mp (h3.mem_iff.mp (List.mem_map_of_mem hq))
  have hall : ((live.map (·.2)).toArray.filterMap (es[·]?)).toList = live.map fun q => es.toList.getD q.2 default := by
    rw [Array.toList_filterMap]
    show (live.map (·.2)).filterMap (es[·]?) = _
    rw [List.filterMap_map]
    clear e h1 h2 h3 h4
    induction live with
    | nil => rfl
    | cons q live ih =>
      have hq := hlt q (.head _)
      rw [List.filterMap_cons, List.map_cons, ← ih fun p hp => hlt p (.tail _ hp)]
      simp [Function.comp_def, hq]
  have hperm : ((live.map (·.2)).toArray.filterMap (es[·]?)).toList.Perm es.toList := by
    rw [hall]
    have := h3.map (fun i => es.toList.getD i default)
    rw [List.map_map] at this
    have er := map_range_getD es.toList default
    rw [Array.length_toList] at er
    rw [er] at this
    exact this
  have hlen : (live.map (·.1)).length = es.toList.length := by
    have := hperm.length_eq
    rw [hall, List.length_map] at this
    rw [List.length_map, this]
  refine ⟨{ mask := m, place := (live.map (·.1)).toArray, dummies := #[], finger := t.finger, led := t.led, moves := t.movedTo m, plain := t.plain }, (live.map (·.2)).toArray, ?_, ?_, ?_, hperm, ?_⟩
  · unfold SetTable.relaid
    rw [hw, Nat.add_sub_cancel]
    exact e
  · have := hperm.length_eq
    simpa using this
  · rfl
  · have hl2 := hperm.length_eq
    have hsz := Array.length_toList (xs := es)
    refine ⟨⟨?_, ?_, ?_, rfl, hp, hm, ?_, ?_⟩, ?_⟩
    · rw [hl2]; simpa using hlen
    · simpa using h1
    · intro j hj
      have hj' : j ∈ live.map (·.1) := by simpa [occ] using hj
      obtain ⟨q, hq, rfl⟩ := List.mem_map.mp hj'
      exact h2 q hq
    · rw [hl2, hsz]
      show es.size ≤ m
      omega
    · intro q hq
      rw [hall] at hq
      have hq' : q ∈ (live.map (·.1)).zip (live.map fun q => es.toList.getD q.2 default) := hq
      rw [List.zip_map'] at hq'
      obtain ⟨p, hp', rfl⟩ := List.mem_map.mp hq'
      have hpl := hlt p hp'
      obtain ⟨K, q1, q2⟩ := h4 p hp' (es.toList.getD p.2 default).1 (by simp [hpl])
      exact ⟨K, q1, fun K' hK' => by have := q2 K' hK'; simpa [occ] using this⟩
    · rw [hl2, hsz]; exact hn
end Mine
end
/-! part SetWp -/
section
open PySem PySem.Calls
namespace Mine

/-! two lists, item by item -/
inductive F2 {α β : Type} (R : α → β → Prop) : List α → List β → Prop
  | nil : F2 R [] []
  | cons {a : α} {b : β} {as : List α} {bs : List β} : R a b → F2 R as bs → F2 R (a :: as) (b :: bs)
namespace F2
variable {α β : Type} {R S : α → β → Prop}
theorem length {as : List α} {bs : List β} (h : F2 R as bs) : as.length = bs.length := by
  induction h with
  | nil => rfl
  | cons _ _ ih => rw [List.length_cons, List.length_cons, ih]
theorem imp (hi : ∀ a b, R a b → S a b) {as : List α} {bs : List β} (h : F2 R as bs) : F2 S as bs := by
  induction h with
  | nil => exact .nil
  | cons h _ ih => exact .cons (hi _ _ h) ih
theorem get {as : List α} {bs : List β} (h : F2 R as bs) {i : Nat} {a : α} (ha : as[i]? = some a) : ∃ b, bs[i]? = some b ∧ R a b := by
  induction h generalizing i with
  | nil => simp at ha
  | cons h _ ih =>
    cases i with
    | zero => simp at ha; subst ha; exact ⟨_, rfl, h⟩
    | succ i => exact ih (by simpa using ha)
theorem getR {as : List α} {bs : List β} (h : F2 R as bs) {i : Nat} {b : β} (hb : bs[i]? = some b) : ∃ a, as[i]? = some a ∧ R a b := by
  induction h generalizing i with
  | nil => simp at hb
  | cons h _ ih =>
    cases i with
    | zero => simp at hb; subst hb; exact ⟨_, rfl, h⟩
    | succ i => exact ih (by simpa using hb)
theorem append {as as' : List α} {bs bs' : List β} (h : F2 R as bs) (h' : F2 R as' bs') : F2 R (as ++ as') (bs ++ bs') := by
  induction h with
  | nil => exact h'
  | cons h _ ih => exact .cons h ih
theorem snoc {as : List α} {bs : List β} {a : α} {b : β} (h : F2 R as bs) (h' : R a b) : F2 R (as ++ [a]) (bs ++ [b]) := h.append (.cons h' .nil)
theorem perm {as as' : List α} (p : as.Perm as') : ∀ {bs : List β}, F2 R as bs → ∃ bs', F2 R as' bs' ∧ bs.Perm bs' := by
  induction p with
  | nil => intro bs h; exact ⟨bs, h, .refl _⟩
  | cons x _ ih =>
    intro bs h
    cases h with
    | cons h r => obtain ⟨bs', q, p⟩ := ih r; exact ⟨_, .cons h q, p.cons _⟩
  | swap x y l =>
    intro bs h
    cases h with
    | cons h r => cases r with
      | cons h' r => exact ⟨_, .cons h' (.cons h r), .swap _ _ _⟩
  | trans _ _ i1 i2 =>
    intro bs h
    obtain ⟨b1, q1, p1⟩ := i1 h
    obtain ⟨b2, q2, p2⟩ := i2 q1
    exact ⟨b2, q2, p1.trans p2⟩
theorem mem {as : List α} {bs : List β} (h : F2 R as bs) {a : α} (ha : a ∈ as) : ∃ b, b ∈ bs ∧ R a b := by
  obtain ⟨i, hi⟩ := List.mem_iff_getElem?.mp ha
  obtain ⟨b, hb, hr⟩ := h.get hi
  exact ⟨b, List.mem_of_getElem? hb, hr⟩
theorem memR {as : List α} {bs : List β} (h : F2 R as bs) {b : β} (hb : b ∈ bs) : ∃ a, a ∈ as ∧ R a b := by
  obtain ⟨i, hi⟩ := List.mem_iff_getElem?.mp hb
  obtain ⟨a, ha, hr⟩ := h.getR hi
  exact ⟨a, List.mem_of_getElem? ha, hr⟩
theorem map_left {γ : Type} {f : γ → α} {as : List γ} {bs : List β} (h : F2 (fun x b => R (f x) b) as bs) : F2 R (as.map f) bs := by
  induction h with
  | nil => exact .nil
  | cons h _ ih => exact .cons h ih
theorem take {as : List α} {bs : List β} (h : F2 R as bs) (n : Nat) : F2 R (as.take n) (bs.take n) := by
  induction h generalizing n with
  | nil => rw [List.take_nil, List.take_nil]; exact .nil
  | cons h _ ih =>
    cases n with
    | zero => exact .nil
    | succ n => exact .cons h (ih n)
theorem drop {as : List α} {bs : List β} (h : F2 R as bs) (n : Nat) : F2 R (as.drop n) (bs.drop n) := by
  induction h generalizing n with
  | nil => rw [List.drop_nil, List.drop_nil]; exact .nil
  | cons h t ih =>
    cases n with
    | zero => exact .cons h t
    | succ n => exact ih n
end F2

section
variable {prog : Program} {w : World} {A : Around} {E : Value → Shared → Prop} {s : Shared}
abbrev hsh (prog : Program) (w : World) (r : List Int) : Int := tupleKeyHash (intKind prog w) r
abbrev IsRow (prog : Program) (w : World) (h : Heap) (r : List Int) (a : Addr) : Prop := IsTupleKey (intKind prog w) h r a
def PR (prog : Program) (w : World) (P : Value → List Int → Prop) (h : Heap) : Prop := ∀ v r, P v r → ∃ a, v = .ref a ∧ IsRow prog w h r a

theorem hashByValue_row {r : List Int} {a : Addr} {Q : Bool → Shared → Prop} (hk : IsRow prog w s.heap r a) (h : Q true s) : wpAny (model prog w) A (hashByValue 8 (.ref a)) Q E s := by
  have hT := hk.typeIs
  obtain ⟨o, items, n, ho, _, hd, hi⟩ := hk
  unfold hashByValue
  refine wpAny_bind (wpAny_specialOf hT F.slot_tuple_hash.lookup ?_)
  show wpAny _ _ (seqItems? (.ref a) >>= _) _ _ s
  refine wpAny_bind (wpAny_seqItems ho hd ?_)
  refine wpAny_bind ?_
  show wpAny _ _ (forIn items _ _) _ _ s
  rw [← Array.forIn_toList]
  refine wpAny_forIn_list _ (fun rest r s' => r.1 = none ∧ s' = s ∧ ∃ ks, ItemsAre (intKind prog w) ks rest) _ ?_ ?_ _ _ ⟨rfl, rfl, _, hi⟩
  · rintro v rest r s' ⟨hr, rfl, ks, hall⟩
    cases hall with
    | @cons k _ ks' _ h1 hl =>
      obtain ⟨t, rfl⟩ := Value.isInt_shape h1
      refine wpAny_bind (wpAny_pure ?_)
      exact wpAny_pure ⟨rfl, rfl, ks', hl⟩
  · rintro ⟨r1, r2⟩ s' ⟨hr, rfl, _⟩
    simp only at hr
    subst hr
    exact wpAny_pure h
theorem ofAClassStatement_row {r : List Int} {a : Addr} {Q : Bool → Shared → Prop} (hk : IsRow prog w s.heap r a) (h : Q false s) : wpAny (model prog w) A (ofAClassStatement 8 (.ref a)) Q E s := by
  have hT := hk.typeIs
  obtain ⟨o, items, n, ho, _, hd, hi⟩ := hk
  unfold ofAClassStatement
  refine wpAny_bind (wpAny_typeOf hT ?_)
  dsimp only
  rw [if_pos (by rfl)]
  refine wpAny_bind (wpAny_pure ?_)
  simp only [Bool.not_true, Bool.false_eq_true, if_false]
  refine wpAny_bind (wpAny_seqItems ho hd ?_)
  dsimp only
  refine wpAny_bind ?_
  show wpAny _ _ (forIn items _ _) _ _ s
  rw [← Array.forIn_toList]
  refine wpAny_forIn_list _ (fun rest r s' => r.1 = none ∧ s' = s ∧ ∃ ks, ItemsAre (intKind prog w) ks rest) _ ?_ ?_ _ _ ⟨rfl, rfl, _, hi⟩
  · rintro v rest r s' ⟨hr, rfl, ks, hall⟩
    cases hall with
    | @cons k _ ks' _ h1 hl =>
      obtain ⟨t, rfl⟩ := Value.isInt_shape h1
      refine wpAny_bind (wpAny_pure ?_)
      exact wpAny_pure ⟨rfl, rfl, ks', hl⟩
  · rintro ⟨r1, r2⟩ s' ⟨hr, rfl, _⟩
    simp only at hr
    subst hr
    exact wpAny_pure h
theorem searchCouldBeSeen_row {r : List Int} {a : Addr} {ys : List Value} {Q : Bool → Shared → Prop} (hk : IsRow prog w s.heap r a) (hy : ∀ y ∈ ys, ∃ b q, y = .ref b ∧ IsRow prog w s.heap q b) (h : Q false s) :
    wpAny (model prog w) A (searchCouldBeSeen (.ref a) ys) Q E s := by
  unfold searchCouldBeSeen
  refine wpAny_bind ?_
  refine wpAny_forIn_list _ (fun rest r s' => r.1 = none ∧ s' = s ∧ ∀ y ∈ rest, ∃ b q, y = .ref b ∧ IsRow prog w s.heap q b) _ ?_ ?_ _ _ ⟨rfl, rfl, hy⟩
  · rintro v rest z s' ⟨hr, rfl, hall⟩
    obtain ⟨b, q, rfl, hq⟩ := hall v (.head _)
    have hrest : ∀ y ∈ rest, ∃ b q, y = .ref b ∧ IsRow prog w s'.heap q b := fun y h => hall y (.tail _ h)
    dsimp only
    by_cases hab : a = b
    · subst hab
      rw [if_pos (by simp)]
      exact wpAny_pure ⟨rfl, rfl, hrest⟩
    · rw [if_neg (by simp [hab, carriedByValue])]
      refine wpAny_bind (wpAny_eqIsQuiet_tuple hk ?_)
      simp only [Bool.not_true, Bool.false_eq_true, if_false]
      refine wpAny_bind (wpAny_eqIsQuiet_tuple hq ?_)
      simp only [Bool.not_true, Bool.false_eq_true, if_false]
      refine wpAny_bind (ofAClassStatement_row hk ?_)
      simp only [Bool.false_eq_true, if_false]
      refine wpAny_bind (ofAClassStatement_row hq ?_)
      simp only [Bool.false_eq_true, if_false]
      exact wpAny_pure ⟨rfl, rfl, hrest⟩
  · rintro ⟨r1, r2⟩ s' ⟨hr, rfl, _⟩
    simp only at hr
    subst hr
    exact wpAny_pure h
theorem Tab0.fits {es : Array (Int × Value)} {t : SetTable} (T : Tab0 es.toList t) : t.fits es.size = true := by
  have h1 := T.size
  have h2 := T.fill
  have h3 := T.dum
  unfold SetTable.fits SetTable.fill
  rw [h3]
  simp at h1 h2 ⊢
  omega
end
end Mine
end
/-! part SetAdd -/
section
open PySem PySem.Calls
namespace Mine
section
variable {prog : Program} {w : World} {A : Around} {E : Value → Shared → Prop} {s : Shared}

abbrev Ents (prog : Program) (w : World) (P : Value → List Int → Prop) (es : List (Int × Value)) (rs : List (List Int)) : Prop := F2 (fun e r => e.1 = hsh prog w r ∧ P e.2 r) es rs

theorem advN_dummy (m : Nat) : ∀ (k : Nat) (p : SPr), SetTable.Probe.dummy (advN m k p) = p.dummy
  | 0, _ => rfl
  | k + 1, p => by show (advN m k (adv m p)).dummy = _; rw [advN_dummy m k, adv_dummy]
theorem probe_met {es : Array (Int × Value)} {t : SetTable} (T : Tab es.toList t) {hashAt : Nat → Int} {h : Int} {k : Nat} {met : Option SetTable.Met} (hm : SetTable.probe t hashAt h (advN t.mask k (pstart t.mask h)) = met)
    (hha : ∀ i, hashAt i = (es[i]?.map (·.1)).getD 0) (hz : ∃ z, z < 10 * SetTable.turns t.mask ∧ ¬ occ t (advN t.mask z (advN t.mask k (pstart t.mask h))).j) :
    ∃ q, (∀ k', k' < q → occ t (advN t.mask k' (advN t.mask k (pstart t.mask h))).j ∧ ∀ i (hi : i < t.place.size), t.place[i] = (advN t.mask k' (advN t.mask k (pstart t.mask h))).j → (es[i]?.map (·.1)).getD 0 ≠ h) ∧
      ((¬ occ t (advN t.mask q (advN t.mask k (pstart t.mask h))).j ∧ met = some (.empty (advN t.mask q (advN t.mask k (pstart t.mask h))).j none)) ∨
       (∃ i, ∃ hi : i < t.place.size, t.place[i] = (advN t.mask q (advN t.mask k (pstart t.mask h))).j ∧ (es[i]?.map (·.1)).getD 0 = h ∧ met = some (.candidate (advN t.mask q (advN t.mask k (pstart t.mask h))).j i (advN t.mask (q + 1) (advN t.mask k (pstart t.mask h)))))) := by
  subst hm
  obtain ⟨q, a, b⟩ := probe_go T.sorted T.dum hashAt h (10 * SetTable.turns t.mask) (advN t.mask k (pstart t.mask h)) (by rw [advN_dummy]; rfl) hz
  refine ⟨q, fun k' hk' => ⟨(a k' hk').1, fun i hi e => by rw [← hha]; exact (a k' hk').2 i hi e⟩, ?_⟩
  rcases b with ⟨b1, b2⟩ | ⟨i, hi, b1, b2, b3⟩
  · exact .inl ⟨b1, b2⟩
  · exact .inr ⟨i, hi, b1, by rw [← hha]; exact b2, b3⟩
/-- a search in a table of rows -/
theorem search_row {P : Value → List Int → Prop} {S : Addr} {o : Obj} {es : Array (Int × Value)} {ep : Nat} {t : SetTable} {rs : List (List Int)} {r : List Int} {a : Addr} {Q : SetFound → Shared → Prop}
    (hu : A.units < cLine) (hP : PR prog w P s.heap) (ho : s.heap.get? S = some o) (hd : o.data = .set es ep t) (T : Tab es.toList t) (hE : Ents prog w P es.toList rs) (hx : IsRow prog w s.heap r a)
    (h1 : r ∈ rs → Q (.there none) s) (h2 : r ∉ rs → ∀ K, (∀ K', K' < K → occ t (sq t.mask (hsh prog w r) K')) → ¬ occ t (sq t.mask (hsh prog w r) K) → Q (.free (sq t.mask (hsh prog w r) K) false) s) :
    ∀ (fuel k Z : Nat), k ≤ Z → Z - k < fuel → Z < 10 * SetTable.turns t.mask → ¬ occ t (sq t.mask (hsh prog w r) Z) →
      (∀ k', k' < k → occ t (sq t.mask (hsh prog w r) k') ∧ ∀ i (hi : i < t.place.size), t.place[i] = sq t.mask (hsh prog w r) k' → rs[i]? ≠ some r) →
      ∀ stand : Option SPr, stand.getD (t.probeStart (hsh prog w r)) = advN t.mask k (pstart t.mask (hsh prog w r)) →
        wpAny (model prog w) A (setSearchFrom S (.ref a) (hsh prog w r) true fuel stand) Q E s := by
  have hT := hx.typeIs
  have hsz : t.place.size = es.size := by have := T.size; simpa using this
  intro fuel
  induction fuel with
  | zero => intro k Z _ h; exact absurd h (Nat.not_lt_zero _)
  | succ fuel ih =>
    intro k Z hkZ hfu hZ hfree hseen stand hst
    unfold setSearchFrom
    refine wpAny_bind (wpAny_setState_of ho hd T.fits ?_)
    dsimp only
    have hgw : t.gaveWay = false := by
      have hm : t.mask = 7 ∨ t.mask = 31 ∨ t.mask = 127 := T.mask
      unfold SetTable.gaveWay
      rcases hm with e | e | e <;> rw [e] <;> rfl
    rw [hgw]
    simp only [Bool.false_eq_true, if_false]
    rw [hst]
    have hsq : ∀ x, (advN t.mask x (advN t.mask k (pstart t.mask (hsh prog w r)))).j = sq t.mask (hsh prog w r) (k + x) := fun x => by rw [← advN_add]; rfl
    generalize hm : SetTable.probe t _ (hsh prog w r) (advN t.mask k (pstart t.mask (hsh prog w r))) = met
    obtain ⟨q, hq1, hq2⟩ := probe_met T hm (fun i => by rfl) ⟨Z - k, by omega, by rw [hsq, Nat.add_sub_cancel' hkZ]; exact hfree⟩
    have seen : ∀ k', k' < k + q → occ t (sq t.mask (hsh prog w r) k') ∧ ∀ i (hi : i < t.place.size), t.place[i] = sq t.mask (hsh prog w r) k' → rs[i]? ≠ some r := by
      intro k' hk'
      by_cases hlt : k' < k
      · exact hseen k' hlt
      · have hd' : k' = k + (k' - k) := by omega
        obtain ⟨u1, u2⟩ := hq1 (k' - k) (by omega)
        rw [hsq, ← hd'] at u1 u2
        refine ⟨u1, fun i hi e hr => ?_⟩
        obtain ⟨en, he1, he2⟩ := hE.getR hr
        refine u2 i hi e ?_
        rw [← Array.getElem?_toList, he1]
        exact he2.1
    have notThere : ¬ occ t (sq t.mask (hsh prog w r) (k + q)) → r ∉ rs := by
      intro hno hr
      obtain ⟨i, hi⟩ := List.mem_iff_getElem?.mp hr
      obtain ⟨en, he1, he2⟩ := hE.getR hi
      have hil : i < t.place.size := by
        have := (List.getElem?_eq_some_iff.mp he1).1
        simp at this; omega
      have hz : (t.place[i], en) ∈ t.place.toList.zip es.toList := by
        rw [List.mem_iff_getElem?]
        exact ⟨i, by rw [List.getElem?_zip_eq_some]; exact ⟨by simp [hil], he1⟩⟩
      obtain ⟨K0, z1, z2⟩ := T.reach _ hz
      rw [he2.1] at z1 z2
      dsimp only at z1
      rcases Nat.lt_trichotomy K0 (k + q) with hl | hl | hl
      · exact (seen K0 hl).2 i hil z1.symm hi
      · rw [← hl, z1] at hno
        exact hno (occ_iff.mpr ⟨i, hil, rfl⟩)
      · exact hno (z2 _ hl)
    rcases hq2 with ⟨e1, rfl⟩ | ⟨i, hi, e1, e2, rfl⟩
    · dsimp only
      rw [hsq] at e1 ⊢
      exact wpAny_pure (h2 (notThere e1) _ (fun K' hK' => (seen K' hK').1) e1)
    · dsimp only
      have hie : i < es.size := by omega
      obtain ⟨ri, hri, hre⟩ := hE.get (i := i) (a := es[i]) (by simp [hie])
      obtain ⟨b, hb, hbr⟩ := hP _ _ hre.2
      have hget : es[i]? = some (es[i].1, .ref b) := by rw [← hb]; simp [hie]
      have hocc : occ t (sq t.mask (hsh prog w r) (k + q)) := by rw [← hsq, ← e1]; exact occ_iff.mpr ⟨i, hi, rfl⟩
      have hne : k + q ≠ Z := fun e => by rw [e] at hocc; exact hfree hocc
      have hle : k + q ≤ Z := by
        refine Nat.le_of_not_lt fun hlt => ?_
        exact hfree (seen Z hlt).1
      have hsm : t.sameMemory t.moves t.mask = some true := by unfold SetTable.sameMemory; rw [if_pos (by simp)]
      have body : ri ≠ r → wpAny (model prog w) A (setSearchFrom S (.ref a) (hsh prog w r) true fuel (some (advN t.mask (q + 1) (advN t.mask k (pstart t.mask (hsh prog w r)))))) Q E s := fun heq => by
        refine ih (k + q + 1) Z (by omega) (by omega) hZ hfree (fun k' hk' => ?_) _ ?_
        · by_cases hlt : k' < k + q
          · exact seen k' hlt
          · have : k' = k + q := by omega
            subst this
            refine ⟨hocc, fun i' hi' e' hr' => ?_⟩
            have hii : i' = i := by
              have e2' : t.place[i'] = t.place[i] := by rw [e', ← hsq, e1]
              rcases Nat.lt_trichotomy i' i with z | z | z
              · have := sorted_get T.sorted z hi; omega
              · exact z
              · have := sorted_get T.sorted z hi'; omega
            subst hii
            rw [hri] at hr'
            exact heq (Option.some.inj hr')
        · show advN t.mask (q + 1) (advN t.mask k _) = _
          rw [← advN_add, Nat.add_assoc]
      have go : wpAny (model prog w) A (do
            let some (_, y) := es[i]? | unsupported "internal:set-entry"
            let equal ← holding [y] (eqBool y (.ref a))
            let (es', _, t') ← setState S
            if true && equal then return .there none
            let some same := t'.sameMemory t.moves t.mask | unsupported "set.changed-during-lookup:is-the-new-block-at-the-old-address"
            let still ← match (if same then t'.slot (advN t.mask q (advN t.mask k (pstart t.mask (hsh prog w r)))).j else .empty) with
              | .live i' => match es'[i']? with
                | some (_, y') => do pure (if ← isSame y' y then some i' else none)
                | none => pure none
              | _ => pure none
            match still with
            | none => rule "set.search.anew"; setSearchFrom S (.ref a) (hsh prog w r) true fuel none
            | some i' => if equal then return .there (some i') else setSearchFrom S (.ref a) (hsh prog w r) true fuel (some (advN t.mask (q + 1) (advN t.mask k (pstart t.mask (hsh prog w r)))))) Q E s := by
        rw [hget]
        dsimp only
        refine wpAny_bind (wpAny_holding (wpAny_eqBool_tuple hu hbr hx ?_))
        refine wpAny_bind (wpAny_setState_of ho hd T.fits ?_)
        dsimp only
        by_cases heq : ri = r
        · rw [decide_eq_true heq]
          simp only [Bool.and_true, if_true]
          exact wpAny_pure (h1 (heq ▸ List.mem_of_getElem? hri))
        · rw [decide_eq_false heq]
          simp only [Bool.and_false, Bool.false_eq_true, if_false]
          rw [hsm]
          dsimp only
          rw [if_pos rfl, ← e1, slot_live T.sorted hi]
          dsimp only
          rw [hget]
          dsimp only
          refine wpAny_bind (wpAny_isSame_ref_self ?_)
          simp only [if_true]
          refine wpAny_bind (wpAny_pure ?_)
          exact body heq
      by_cases hl : (!t.led) = true
      · rw [if_pos hl]
        refine wpAny_bind (searchCouldBeSeen_row hx (fun y hy => ?_) ?_)
        · obtain ⟨en, hen, rfl⟩ := List.mem_map.mp hy
          have hen' : en ∈ es.toList := by
            have := Array.mem_toList_iff.mp hen
            exact Array.mem_toList_iff.mpr (Array.mem_of_mem_filter this)
          obtain ⟨q', _, hq'⟩ := hE.mem hen'
          obtain ⟨b', hb', hbr'⟩ := hP _ _ hq'.2
          exact ⟨b', q', hb', hbr'⟩
        · simp only [Bool.false_eq_true, if_false]
          exact go
      · rw [if_neg hl]
        exact go
end
end Mine
end
/-! part SetAdd2 -/
section
open PySem PySem.Calls
namespace Mine
section
variable {prog : Program} {w : World} {A : Around} {E : Value → Shared → Prop} {s : Shared}

def SetIs (prog : Program) (w : World) (P : Value → List Int → Prop) (h : Heap) (S : Addr) (rs : List (List Int)) (led : Bool) : Prop :=
  ∃ o es ep t, h.get? S = some o ∧ o.ExactSet ∧ o.data = .set es ep t ∧ Tab es.toList t ∧ t.led = led ∧ Ents prog w P es.toList rs ∧ rs.Nodup
theorem SetIs.same {P : Value → List Int → Prop} {h h' : Heap} {S : Addr} {rs : List (List Int)} {led : Bool} (x : SetIs prog w P h S rs led) (e : ∀ o, h.get? S = some o → h'.get? S = some o) : SetIs prog w P h' S rs led :=
  let ⟨o, es, ep, t, ho, r⟩ := x; ⟨o, es, ep, t, e o ho, r⟩
theorem IsRow.same {h h' : Heap} {r : List Int} {a S : Addr} {o : Obj} {es ep t} (x : IsRow prog w h r a) (ho : h.get? S = some o) (hd : o.data = .set es ep t) (hs : Heap.SameBut S h h') : IsRow prog w h' r a := by
  obtain ⟨o', items, n, ho', hc, hd', hi⟩ := x
  have hne : a ≠ S := by
    rintro rfl
    obtain rfl : o' = o := Option.some.inj (ho'.symm.trans ho)
    rw [hd] at hd'; exact nomatch hd'
  exact ⟨o', items, n, (hs.2 a hne).trans ho', hc, hd', hi⟩
theorem PR.same {P : Value → List Int → Prop} {h h' : Heap} {S : Addr} {rs : List (List Int)} {led : Bool} (x : PR prog w P h) (hS : SetIs prog w P h S rs led) (hs : Heap.SameBut S h h') : PR prog w P h' := fun v r hv => by
  obtain ⟨a, e, ha⟩ := x v r hv
  obtain ⟨o, es, ep, t, ho, _, hd, _⟩ := hS
  exact ⟨a, e, ha.same ho hd hs⟩
theorem put_get {h : Heap} {S : Addr} {o : Obj} {es : Array (Int × Value)} {ep : Nat} {t : SetTable} (ho : h.get? S = some o) (hd : o.data = .set es ep t) (es' : Array (Int × Value)) (t' : SetTable) :
    (h.update S (Obj.putSet es' t')).get? S = some { o with data := .set es' (ep + 1) t' } := by
  have := Heap.get?_update_self (Obj.putSet es' t') ho (by rw [putSet_of es' t' hd]; rfl)
  rw [putSet_of es' t' hd] at this; exact this

theorem add_row {P : Value → List Int → Prop} {S : Addr} {rs : List (List Int)} {led : Bool} {r : List Int} {a : Addr} {Q : Bool → Shared → Prop}
    (hu : A.units < cLine) (hP : PR prog w P s.heap) (hS : SetIs prog w P s.heap S rs led) (hx : P (.ref a) r) (hn : rs.length < 60)
    (h : ∀ b h' rs', Heap.SameBut S s.heap h' → SetIs prog w P h' S rs' led → rs'.Perm (if r ∈ rs then rs else r :: rs) → Q b { s with heap := h' }) :
    wpAny (model prog w) A (setAddHashed S (.ref a) (hsh prog w r)) Q E s := by
  have hS' := hS
  obtain ⟨o, es, ep, t, ho, hex, hd, T, hled, hE, hnd⟩ := hS
  have hrow : IsRow prog w s.heap r a := by
    obtain ⟨b, e, hb⟩ := hP _ _ hx
    injection e with e
    subst e; exact hb
  have hlen : es.toList.length = rs.length := hE.length
  have hsz : es.size = rs.length := by simpa using hlen
  have hmask : t.mask = 7 ∨ t.mask = 31 ∨ t.mask = 127 := T.mask
  have hroom := T.room
  rw [hlen] at hroom
  unfold setAddHashed setAddHashedIn
  refine wpAny_holding (wpAny_bind (wpAny_setState_of ho hd T.fits ?_))
  dsimp only
  have hbs : byScan (.ref a) es = false := rfl
  rw [hbs]
  simp only [Bool.false_eq_true, if_false]
  refine wpAny_bind ?_
  unfold setSearch
  -- a slot that is free: the last of the table's
  obtain ⟨j₀, hj₀, hfree⟩ : ∃ j, j ≤ t.mask ∧ ¬ occ t j := by
    refine Classical.byContradiction fun hno => ?_
    have hsub : List.range (t.mask + 1) ⊆ t.place.toList := fun j hj => by
      refine Classical.byContradiction fun hj' => hno ⟨j, Nat.le_of_lt_succ (List.mem_range.mp hj), hj'⟩
    have := List.Nodup.length_le_of_subset List.nodup_range hsub
    have h2 := T.size
    rw [List.length_range] at this
    omega
  obtain ⟨g1, g2, _⟩ := pstart_good t.mask (hsh prog w r)
  obtain ⟨Z, hZ, eZ⟩ := cover T.mask g1 g2 hj₀
  have hZ' : ¬ occ t (sq t.mask (hsh prog w r) Z) := by show ¬ occ t (advN t.mask Z (pstart t.mask (hsh prog w r))).j; rw [eZ]; exact hfree
  refine search_row hu hP ho hd T hE hrow (fun hin => ?_) (fun hin K hocc hno => ?_) 100000 0 Z (Nat.zero_le _) (by unfold SetTable.turns at hZ; omega) hZ hZ' (fun k' hk' => absurd hk' (Nat.not_lt_zero _)) none rfl
  · dsimp only
    refine wpAny_pure ?_
    have e : s = { s with heap := s.heap } := by cases s; rfl
    rw [e]
    exact h false s.heap rs (Heap.SameBut.refl S s.heap) ⟨o, es, ep, t, ho, hex, hd, T, hled, hE, hnd⟩ (by rw [if_pos hin])
  · dsimp only
    refine wpAny_bind (wpAny_setState_of ho hd T.fits ?_)
    dsimp only
    rw [put_eq T.dum]
    dsimp only
    have hjm : sq t.mask (hsh prog w r) K ≤ t.mask := sq_le _ _ _
    have T1 := T.put hno hjm (x := Value.ref a) rfl hocc rfl
    rw [T.plain]
    simp only [if_true]
    refine wpAny_bind (hashByValue_row hrow ?_)
    simp only [if_true]
    generalize hp : SetTable.below t.place (sq t.mask (hsh prog w r) K) = p at T1 ⊢
    generalize ht1 : ({ t with place := SetTable.insertAt t.place p (sq t.mask (hsh prog w r) K) } : SetTable) = t1 at T1 ⊢
    have ht1' : ({ mask := t.mask, place := SetTable.insertAt t.place p (sq t.mask (hsh prog w r) K), dummies := t.dummies, finger := t.finger, led := t.led, moves := t.moves, plain := true } : SetTable) = t1 := by
      rw [← ht1, T.plain]
    try rw [ht1']
    generalize hes1 : SetTable.insertAt es p (hsh prog w r, Value.ref a) = es1
    have hl1 : es1.toList = es.toList.take p ++ (hsh prog w r, Value.ref a) :: es.toList.drop p := by rw [← hes1, insertAt_toList]
    rw [← hl1] at T1
    have hsz1 : es1.size = rs.length + 1 := by
      rw [← Array.length_toList, hl1, (perm_insert _ _ _).length_eq, List.length_cons, hlen]
    have hE1 : Ents prog w P es1.toList (rs.take p ++ r :: rs.drop p) := by
      rw [hl1]
      exact (hE.take p).append (.cons ⟨rfl, hx⟩ (hE.drop p))
    have hp1 : (rs.take p ++ r :: rs.drop p).Perm (r :: rs) := perm_insert _ _ _
    have hnd1 : (rs.take p ++ r :: rs.drop p).Nodup := hp1.nodup_iff.mpr (List.nodup_cons.mpr ⟨hin, hnd⟩)
    have hm1 : t1.mask = t.mask := by rw [← ht1]
    have hled1 : t1.led = led := by rw [← ht1]; exact hled
    refine wpAny_bind (wpAny_storeSet_of ho hd ?_ (by rw [hsz1, sizeLine_eq]; omega))
    have ho1 := put_get ho hd es1 t1
    have hsb1 := Heap.SameBut.update s.heap S (Obj.putSet es1 t1)
    have hfill : t1.fill = rs.length + 1 := by
      unfold SetTable.fill
      have h1 := T1.size
      rw [T1.dum]
      simp at h1 ⊢
      omega
    by_cases hfull : t1.tooFull = true
    · have hfull' := hfull
      unfold SetTable.tooFull at hfull'
      rw [hfill, hm1] at hfull'
      have hfull2 : (rs.length + 1) * 5 ≥ t.mask * 3 := by simpa using hfull'
      rw [show (!false && t1.tooFull) = true by rw [hfull]; rfl]
      simp only [if_true]
      obtain ⟨m2, hm2, hw2, hr2⟩ : ∃ m2, msk m2 ∧ SetTable.sizeAbove (SetTable.grown (es.size + 1)) = m2 + 1 ∧ es1.size * 5 < m2 * 3 := by
        rw [hsz, hsz1]
        rcases hmask with e | e | e
        · have : rs.length = 4 := by omega
          rw [this]
          exact ⟨31, .inr (.inl rfl), by decide, by decide⟩
        · have : rs.length = 18 := by omega
          rw [this]
          exact ⟨127, .inr (.inr rfl), by decide, by decide⟩
        · omega
      obtain ⟨t2, order, e1, e2, e3, e4, T2⟩ := relaid_spec hm2 hr2 T1.plain hw2
      refine wpAny_bind ?_
      unfold setRelay
      refine wpAny_bind (wpAny_setState_of (s := { s with heap := s.heap.update S (Obj.putSet es1 t1) }) ho1 rfl T1.fits ?_)
      dsimp only
      rw [hw2]
      have hm2' : m2 = 7 ∨ m2 = 31 ∨ m2 = 127 := hm2
      rw [if_neg (by rw [sizeLine_eq]; omega)]
      rw [e1]
      generalize hes2 : order.filterMap (es1[·]?) = es2 at e2 e4 T2
      refine wpAny_bind ?_
      show wpAny _ _ (if ((order.filterMap (es1[·]?)).size != es1.size) = true then unsupported "internal:set-table-lost-an-element" else pure (order.filterMap (es1[·]?), t2)) _ _ _
      rw [hes2, e2, if_neg (by simp)]
      refine wpAny_pure ?_
      dsimp only
      refine wpAny_storeSet_of (s := { s with heap := s.heap.update S (Obj.putSet es1 t1) }) ho1 rfl ?_ (by rw [e2, hsz1, sizeLine_eq]; omega)
      refine wpAny_pure ?_
      obtain ⟨rs2, hE2, hp2⟩ := F2.perm e4.symm hE1
      refine h true _ rs2 (hsb1.trans (Heap.SameBut.update _ S _)) ⟨_, es2, _, t2, put_get ho1 rfl es2 t2, hex, rfl, T2, by rw [e3, hled1], hE2, hp2.nodup_iff.mp hnd1⟩ ?_
      rw [if_neg hin]
      exact hp2.symm.trans hp1
    · have hfull' : t1.tooFull = false := by cases hq : t1.tooFull with
        | false => rfl
        | true => exact absurd hq hfull
      rw [show (!false && t1.tooFull) = false by rw [hfull']; rfl]
      simp only [Bool.false_eq_true, if_false]
      refine wpAny_pure ?_
      have hroom1 : es1.toList.length * 5 < t1.mask * 3 := by
        unfold SetTable.tooFull at hfull'
        rw [hfill] at hfull'
        simp only [decide_eq_false_iff_not] at hfull'
        rw [Array.length_toList, hsz1]
        omega
      refine h true _ _ hsb1 ⟨_, es1, _, t1, ho1, hex, rfl, ⟨T1, hroom1⟩, hled1, hE1, hnd1⟩ ?_
      rw [if_neg hin]
      exact hp1
end
end Mine
end
/-! part SetMake -/
section
open PySem PySem.Calls
set_option maxRecDepth 100000
namespace Mine
section
variable {prog : Program} {w : World} {A : Around} {E : Value → Shared → Prop} {s : Shared}

abbrev ledOf (w : World) : Bool := !w.params.followText "set-order"
abbrev set0 (w : World) : Obj := { cls := .type "set", dict := none, data := .set #[] 0 (.fresh 0 0 (ledOf w)) }

theorem setIs_fresh {P : Value → List Int → Prop} {h : Heap} {S : Addr} (ho : h.get? S = some (set0 w)) : SetIs prog w P h S [] (ledOf w) := by
  refine ⟨_, #[], 0, _, ho, ⟨rfl, rfl, rfl⟩, rfl, ⟨⟨rfl, List.Pairwise.nil, (fun j hj => by simp [occ, SetTable.fresh] at hj), rfl, rfl, Or.inl rfl, Nat.zero_le _, (fun q hq => by simp at hq)⟩, by show 0 * 5 < 7 * 3; decide⟩, rfl, .nil, .nil⟩

/-- the loop that fills the set -/
theorem fill_loop {P : Value → List Int → Prop} {S I l : Addr} {items : Array Value} {qs : List (List Int)} {led : Bool} {R : Result → Shared → Prop}
    (hh : A.handled = none) (hu : A.units + 1 < cLine) (hIl : l ≠ I) (hSI : S ≠ I) (hSl : S ≠ l) (hq : F2 P items.toList qs) (hn : qs.length < 60) :
    ∀ (k i : Nat) (s : Shared) (rs : List (List Int)), items.size - i = k → i ≤ items.size → (s.heap.IsListIter I l i ∧ s.heap.IsList l items) → PR prog w P s.heap → SetIs prog w P s.heap S rs led →
      (∀ r, r ∈ rs ↔ r ∈ qs.take i) → rs.length ≤ i →
      (∀ h' tk rs', (∀ b o, b ≠ S → b ≠ I → s.heap.get? b = some o → h'.get? b = some o) → SetIs prog w P h' S rs' led → (∀ r, r ∈ rs' ↔ r ∈ qs) → rs'.length ≤ qs.length → R (.ok (.ret .none)) { s with heap := h', toks := tk }) →
      codeAny (model prog w) A (.builtin "set.update.loop" ⟨[.ref S, .ref I], []⟩) R s := by
  have hlen : items.size = qs.length := by have := hq.length; simpa using this
  have W := Walks.list (prog := prog) (w := w) (A := A.in1) (by simpa using hh) I l hIl items
  intro k
  induction k with
  | zero =>
    intro i s rs hk hi hst hP hS hmem hle hR
    have hin : i = items.size := by omega
    subst hin
    refine codeAny_builtin PyProof.Rows.F.entry_set_update_loop ?_
    rw [Around.under_plainId PyProof.Rows.F.plain_set_update_loop _]
    show wpAny _ A.in1 (pyNext (.ref I) >>= _) _ _ s
    refine wpAny_bind (W.done s _ _ hst fun h' tk hk' => ?_)
    show wpAny _ A.in1 (ret Value.none) _ _ _
    refine wpAny_pure (hR h' tk rs (fun b o h1 h2 e => hk' b o (by simpa using h2) e) (hS.same fun o e => hk' S o (by simpa using hSI) e) (fun r => ?_) (by omega))
    rw [hmem, hlen, List.take_length]
  | succ k ih =>
    intro i s rs hk hi hst hP hS hmem hle hR
    have hlt : i < items.size := by omega
    refine codeAny_builtin PyProof.Rows.F.entry_set_update_loop ?_
    rw [Around.under_plainId PyProof.Rows.F.plain_set_update_loop _]
    show wpAny _ A.in1 (pyNext (.ref I) >>= _) _ _ s
    refine wpAny_bind (W.item i s _ _ hlt hst fun v h₁ tk₁ hv hst₁ hk₁ => ?_)
    obtain ⟨r, hr, hvr⟩ := hq.get (by rw [Array.getElem?_toList]; exact hv)
    have hP₁ : PR prog w P h₁ := fun v' r' hv' => by
      obtain ⟨a, e, o, its, n, ho, hc, hd, hi⟩ := hP v' r' hv'
      refine ⟨a, e, o, its, n, hk₁ a o ?_ ho, hc, hd, hi⟩
      obtain ⟨⟨oI, hoI, hcI, hdI⟩, _⟩ := hst
      intro hm
      have hm := List.mem_singleton.mp hm
      subst hm
      rw [ho] at hoI
      cases hoI
      rw [hc] at hcI
      exact absurd hcI (by decide)
    obtain ⟨a, rfl, ha⟩ := hP₁ v r hvr
    have hS₁ : SetIs prog w P h₁ S rs led := hS.same fun o e => hk₁ S o (by simpa using hSI) e
    show wpAny _ A.in1 (holding [Value.ref a] (setAdd S (.ref a)) >>= _) _ _ _
    refine wpAny_bind (wpAny_holding ?_)
    unfold setAdd
    refine wpAny_holding ?_
    refine wpAny_bind (wpAny_pyHash_tuple (knd := intKind prog w) (s := { s with heap := h₁, toks := tk₁ }) hu ha ?_)
    refine add_row (s := { s with heap := h₁, toks := tk₁ + (r.length + 1) }) hu hP₁ hS₁ hvr (by omega) fun b h' rs' hsb hS' hp => ?_
    have hst' : h'.IsListIter I l (i + 1) ∧ h'.IsList l items := W.frame _ _ _ hst₁ fun b hb o e => by
      rw [hsb.2 b (fun q : b = S => by
        subst q
        rcases List.mem_cons.mp hb with hb | hb
        · exact hSI hb
        · exact hSl (List.mem_singleton.mp hb))]
      exact e
    have htake : qs.take (i + 1) = qs.take i ++ [r] := by rw [List.take_add_one, hr]; rfl
    refine wpAny_pure ⟨plainId_quiet PyProof.Rows.F.plain_set_update_loop _, ih (i + 1) _ rs' (by omega) hlt hst' (hP₁.same hS₁ hsb) hS' (fun r' => ?_) ?_ fun h'' tk'' rs'' hk'' hS'' hm'' hl'' => ?_⟩
    · rw [hp.mem_iff, htake, List.mem_append, List.mem_singleton]
      by_cases hin : r ∈ rs
      · rw [if_pos hin, hmem]
        refine ⟨.inl, fun z => z.elim id fun z => ?_⟩
        subst z; exact (hmem _).mp hin
      · rw [if_neg hin, List.mem_cons, hmem]
        exact or_comm
    · have := hp.length_eq
      split at this
      · omega
      · rw [List.length_cons] at this; omega
    · refine hR h'' tk'' rs'' (fun b o h1 h2 e => hk'' b o h1 h2 ?_) hS'' hm'' hl''
      show h'.get? b = some o
      rw [hsb.2 b h1]
      exact hk₁ b o (by simpa using h2) e

theorem new_set (a : Value) {Q₁ : Value → Shared → Prop} (h : Q₁ (.ref s.heap.objs.size) { s with heap := s.heap.push (set0 w) }) :
    codeAny (model prog w) A (.call (.builtin "set.__new__") ⟨[.type "set", a], []⟩) (wants Q₁ E) s := by
  refine codeAny_of_tree ?_
  show wpAny _ A.in1 (do checkBuiltinCall "set.__new__" ⟨[.type "set", a], []⟩; again (.builtin "set.__new__" ⟨[.type "set", a], []⟩)) _ _ s
  refine wpAny_bind (wpAny_of_eq (F.newCall_set_1 a) (wpAny_pure ⟨plainId_quiet F.plain_set_new _, codeAny_builtin F.entry_set_new ?_⟩))
  rw [Around.under_plainId F.plain_set_new _]
  unfold Builtin.«set.__new__» Builtin.Frozenset.newClass
  have hsub := sub_set_self
  obtain ⟨hp, g, d, tk, os⟩ := s
  dsimp only
  wp_walk
  refine wpAny_askSetting (wpAny_pure ?_)
  dsimp only
  simp only [newObj]
  refine wpAny_bind (wpAny_alloc (wpAny_pure ?_))
  exact wpAny_pure h

set_option maxHeartbeats 3200000 in
theorem set_of_list {P : Value → List Int → Prop} {l : Addr} {items : Array Value} {qs : List (List Int)} {Q : Value → Shared → Prop}
    (hh : A.handled = none) (hu : A.units + 10 < cLine) (hl : s.heap.IsList l items) (hq : F2 P items.toList qs) (hn : qs.length < 60) (hP : PR prog w P s.heap)
    (h : ∀ h' tk rs, (∀ b o, s.heap.get? b = some o → h'.get? b = some o) → SetIs prog w P h' s.heap.objs.size rs (ledOf w) → (∀ r, r ∈ rs ↔ r ∈ qs) → rs.length ≤ qs.length → Q (.ref s.heap.objs.size) { s with heap := h', toks := tk }) :
    wpAny (model prog w) A (call (.type "set") [.ref l]) Q E s := by
  obtain ⟨c, tl, hmro⟩ := F.called_set.mro
  have hmade := F.called_set.made
  have hsub := F.called_set.sub
  refine wpAny_call (codeAny_of_tree ?_)
  show wpAny _ _ (callAny (.type "set") _) _ _ _
  refine wpAny_pure ⟨Code.quiet_builtin _ (by decide +kernel), codeAny_builtin F.entry_type_call ?_⟩
  rw [Around.under_plain (weight_type_call_type "set" [.ref l] []) rfl]
  have h1 := F.called_set.notType
  have h2 := F.called_set.canCreate
  have hct := F.typeCall_set_1 (.ref l)
  repeat (any_goals (first | assumption | wp_step))
  refine codeAny_mono (new_set (.ref l) (E := E) (Q₁ := fun obj s₁ => obj = .ref s.heap.objs.size ∧ s₁ = { s with heap := s.heap.push (set0 w) }) ⟨rfl, rfl⟩) fun r s₁ hr => ?_
  cases r with
  | error e => exact hr
  | ok fl =>
    cases fl with
    | ret obj =>
      obtain ⟨rfl, rfl⟩ := hr
      have hS : (s.heap.push (set0 w)).get? s.heap.objs.size = some (set0 w) := Heap.get?_push_size _ rfl
      have hT : Shared.TypeIs { s with heap := s.heap.push (set0 w) } (.ref s.heap.objs.size) "set" := ⟨_, hS, rfl⟩
      have hli := F.called_set.init.lookup
      have hbi := F.called_set.init.bind (.ref s.heap.objs.size)
      repeat (any_goals (first | assumption | wp_step))
      refine codeAny_mono (codeAny_call_builtin (R := wants (fun r s₂ => r = .none ∧ ∃ h' tk rs, s₂ = { s with heap := h', toks := tk } ∧ (∀ b o, s.heap.get? b = some o → h'.get? b = some o) ∧
          SetIs prog w P h' s.heap.objs.size rs (ledOf w) ∧ (∀ r, r ∈ rs ↔ r ∈ qs) ∧ rs.length ≤ qs.length) E) F.called_set.init.plain F.entry_set_init (check_set_init_1 hT ?_)) fun r₂ s₂ hr₂ => ?_
      · obtain ⟨ol, hol, hcl, nl, hdl⟩ := hl
        obtain ⟨ocls, odict, odata, oslots⟩ := ol
        simp only at hcl hdl
        subst hcl; subst hdl
        have hol' : (s.heap.push (set0 w)).get? l = some { cls := .type "list", dict := odict, data := .seq items nl, slots := oslots } := Heap.get?_push_of_some _ hol
        have hsls := F.sub_list_set
        have hslf := F.sub_list_frozenset
        have hne : (Value.type "list" == Value.type "dict") = false := by decide
        have hl1 : (s.heap.push (set0 w)).IsList l items := ⟨_, hol', rfl, nl, rfl⟩
        unfold Builtin.«set.__init__» noKeywords Builtin.Frozenset.updateFrom
        generalize hPI : pyIter = PI
        wp_walk
        subst hPI
        refine wpAny_pyIter_list hl1 ?_
        refine wpAny_bind (wpAny_runValue ?_)
        have hlS : l < s.heap.objs.size := Heap.lt_size hol
        have hsz2 : (s.heap.push (set0 w)).objs.size = s.heap.objs.size + 1 := Heap.size_push ..
        have old : ∀ b o, s.heap.get? b = some o → ((s.heap.push (set0 w)).push { cls := .type "list_iterator", data := .fields #[.ref l, .int 0 0] }).get? b = some o := fun b o e => Heap.get?_push_of_some _ (Heap.get?_push_of_some _ e)
        refine fill_loop (P := P) (qs := qs) (led := ledOf w) (items := items) (l := l) (by simp [hh]) (by simp; omega) (by rw [hsz2]; exact Nat.ne_of_lt (Nat.lt_succ_of_lt hlS)) (by rw [hsz2]; exact Nat.ne_of_lt (Nat.lt_succ_self _)) (Nat.ne_of_gt hlS) hq hn
          (items.size - 0) 0 _ [] (by omega) (Nat.zero_le _) ⟨⟨_, Heap.get?_push_size _ rfl, rfl, rfl⟩, hl1.push _⟩ (fun v r hv => ?_) (setIs_fresh (Heap.get?_push_of_some _ hS)) (fun r => by simp) (Nat.le_refl _) fun h' tk rs hk hSr hm hle => ?_
        · obtain ⟨a, e, o, its, n, ho, x⟩ := hP v r hv
          exact ⟨a, e, o, its, n, old _ _ ho, x⟩
        · show wpAny _ _ _ _ _ _
          refine wpAny_pure ?_
          show wpAny _ _ (ret Value.none) _ _ _
          refine wpAny_pure ⟨rfl, h', tk, rs, rfl, fun b o e => ?_, hSr, hm, hle⟩
          have hb := Heap.lt_size e
          exact hk b o (Nat.ne_of_lt hb) (by rw [hsz2]; exact Nat.ne_of_lt (Nat.lt_succ_of_lt hb)) (old _ _ e)
      · cases r₂ with
        | error e => exact hr₂
        | ok fl₂ =>
          cases fl₂ with
          | ret r =>
            obtain ⟨rfl, h', tk, rs, rfl, hk', hS', hm', hl'⟩ := hr₂
            repeat (any_goals (first | assumption | wp_step))
            exact h _ _ _ hk' hS' hm' hl'
          | _ => exact hr₂.elim
    | _ => exact hr.elim
end
end Mine
end
/-! part SetIter -/
section
open PySem PySem.Calls
set_option maxRecDepth 100000
namespace Mine

theorem slot_setit_next : Slot "set_iterator" "__next__" "set_iterator.__next__" :=
  .of (owner := "set_iterator") (n := "__next__") (by rw [typeLookup_type, builtinLookup_eq_fast]; kernel_rfl) (by decide +kernel) (by decide +kernel) (by decide +kernel)
    (by first | exact .inl (by decide +kernel) | exact .inr (by decide +kernel)) (by rw [isSubtype_type]; kernel_rfl)
theorem entry_setit_next : entryFor table "set_iterator.__next__" = some Builtin.«set_iterator.__next__» := entryFor_of_tree (by kernel_rfl)
theorem args_setit_next (a : Value) : argsOk "set_iterator.__next__" ⟨[a], []⟩ := by unfold argsOk; kernel_rfl
theorem entry_set_iter' : entryFor table "set.__iter__" = some Builtin.«frozenset.__iter__» :=
  entryFor_alias (id' := "frozenset.__iter__") (by kernel_rfl) rfl (by decide +kernel) (by kernel_rfl)

theorem pick_go {α : Type} (f : Nat → Nat) : ∀ (n k : Nat) (left : List α) (out : Array α), left.length = n → (pickOrder.go f n k left out).toList.Perm (out.toList ++ left)
  | 0, k, left, out, hl => by
    have : left = [] := List.length_eq_zero_iff.mp hl
    subst this
    simp [pickOrder.go]
  | n + 1, k, left, out, hl => by
    have hlt : f k % left.length < left.length := Nat.mod_lt _ (by omega)
    unfold pickOrder.go
    rw [List.getElem?_eq_getElem hlt]
    dsimp only
    refine (pick_go f n (k + 1) _ _ (by rw [List.length_eraseIdx_of_lt hlt]; omega)).trans ?_
    rw [Array.toList_push, List.append_assoc]
    refine List.Perm.append_left _ ?_
    show (left[f k % left.length] :: left.eraseIdx (f k % left.length)).Perm left
    generalize f k % left.length = j at hlt
    rw [List.eraseIdx_eq_take_drop_succ]
    have h1 := (List.perm_middle (a := left[j]) (l₁ := left.take j) (l₂ := left.drop (j + 1))).symm
    rwa [List.getElem_cons_drop, List.take_append_drop] at h1
theorem pick_perm {α : Type} (f : Nat → Nat) (xs : Array α) : (pickOrder f xs).toList.Perm xs.toList := by
  have := pick_go f xs.size 0 xs.toList #[] (by simp)
  simpa [pickOrder] using this

theorem below_le {xs : Array Nat} (hs : xs.toList.Pairwise (· < ·)) {i : Nat} (hi : i < xs.size) : SetTable.below xs (xs[i] + 1) = i + 1 := by
  obtain ⟨a, b, c⟩ := below_spec (xs[i] + 1) hs
  rcases Nat.lt_trichotomy (SetTable.below xs (xs[i] + 1)) (i + 1) with h | h | h
  · have h' : SetTable.below xs (xs[i] + 1) ≤ i := by omega
    have := c i hi h'
    omega
  · exact h
  · by_cases hlt : i + 1 < xs.size
    · have h1 := b (i + 1) hlt h
      have h2 : xs[i] < xs[i + 1] := sorted_get hs (Nat.lt_succ_self i) hlt
      omega
    · omega
theorem below_zero {xs : Array Nat} (hs : xs.toList.Pairwise (· < ·)) : SetTable.below xs 0 = 0 := by
  obtain ⟨a, b, c⟩ := below_spec 0 hs
  cases e : SetTable.below xs 0 with
  | zero => rfl
  | succ n => exact absurd (b 0 (by omega) (by omega)) (Nat.not_lt_zero _)

section
variable {prog : Program} {w : World} {A : Around} {E : Value → Shared → Prop} {s : Shared}

abbrev wordOf (w : World) (S : Addr) (ep : Nat) (es : Array (Int × Value)) : Array (Int × Value) :=
  if w.params.followText "set-order" = true then pickOrder (w.params.setOrder S ep) es else es
theorem word_perm (w : World) (S : Addr) (ep : Nat) (es : Array (Int × Value)) : (wordOf w S ep es).toList.Perm es.toList := by
  unfold wordOf
  split
  · exact pick_perm _ _
  · exact List.Perm.refl _
theorem word_size (w : World) (S : Addr) (ep : Nat) (es : Array (Int × Value)) : (wordOf w S ep es).size = es.size := by
  have := (word_perm w S ep es).length_eq
  simpa using this

structure SetObj (w : World) (S : Addr) (es : Array (Int × Value)) (ep : Nat) (t : SetTable) (h : Heap) : Prop where
  at_ : ∃ o, h.get? S = some o ∧ o.ExactSet ∧ o.data = .set es ep t
  tab : Tab es.toList t
  led : t.led = ledOf w
abbrev setItObj (S : Addr) (slot i n ep : Nat) : Obj := { cls := .type "set_iterator", dict := none, data := .fields #[.int slot 0, .int i 0, .ref S, .int n 0, .int ep 0], slots := #[] }
def SetItAt (w : World) (I S : Addr) (es : Array (Int × Value)) (ep : Nat) (t : SetTable) (i : Nat) (h : Heap) : Prop :=
  (∃ slot : Nat, h.get? I = some (setItObj S slot i es.size ep) ∧ (ledOf w = true → SetTable.below t.place slot = i)) ∧ SetObj w S es ep t h

theorem SetObj.typeIs {S : Addr} {es : Array (Int × Value)} {ep : Nat} {t : SetTable} (x : SetObj w S es ep t s.heap) : s.TypeIs (.ref S) "set" := by
  obtain ⟨o, ho, hx, hd⟩ := x.at_
  exact ⟨o, ho, hx.1⟩
theorem SetObj.keep {S : Addr} {es : Array (Int × Value)} {ep : Nat} {t : SetTable} {h h' : Heap} (x : SetObj w S es ep t h) (k : ∀ o, h.get? S = some o → h'.get? S = some o) : SetObj w S es ep t h' := by
  obtain ⟨o, ho, r⟩ := x.at_
  exact ⟨⟨o, k o ho, r⟩, x.tab, x.led⟩

theorem setNext_item {S : Addr} {es : Array (Int × Value)} {ep slot i : Nat} {t : SetTable} {Q : Option (Value × Nat) → Shared → Prop} (x : SetObj w S es ep t s.heap) (hb : ledOf w = true → SetTable.below t.place slot = i)
    (hi : i < es.size) (h : ∀ v slot', (wordOf w S ep es)[i]?.map (·.2) = some v → (ledOf w = true → SetTable.below t.place slot' = i + 1) → Q (some (v, slot')) s) :
    wpAny (model prog w) A (setNext S slot i ep) Q E s := by
  obtain ⟨o, ho, hx, hd⟩ := x.at_
  have T := x.tab
  have hsz : t.place.size = es.size := by have := T.size; simpa using this
  have hws := word_size w S ep es
  have hpl := T.plain
  unfold setNext
  refine wpAny_bind (wpAny_setState_of ho hd T.fits ?_)
  dsimp only
  unfold setsByText
  refine wpAny_bind (wpAny_bind (wpAny_askSetting (wpAny_pure ?_)))
  refine wpAny_ite_split (fun hf => ?_) (fun hf => ?_)
  · have hf' : w.params.followText "set-order" = true := hf
    rw [if_neg (by simp)]
    unfold setWalk
    refine wpAny_bind ?_
    refine wpAny_bind (wpAny_setState_of ho hd T.fits ?_)
    dsimp only
    unfold setsByText
    refine wpAny_bind (wpAny_bind (wpAny_askSetting (wpAny_pure ?_)))
    rw [if_pos hf]
    refine wpAny_bind (wpAny_askSetting (wpAny_pure (wpAny_pure ?_)))
    have hi' : i < (wordOf w S ep es).size := by omega
    have e : pickOrder (w.params.setOrder S ep) es = wordOf w S ep es := by unfold wordOf; rw [if_pos hf']
    show Q (((pickOrder (w.params.setOrder S ep) es)[i]?).map fun e => (e.2, slot)) s
    rw [e]
    have e2 : (wordOf w S ep es)[i]? = some (wordOf w S ep es)[i] := by simp [hi']
    rw [e2]
    refine h _ slot (by rw [e2]; rfl) (fun hl => ?_)
    unfold ledOf at hl
    rw [hf'] at hl
    exact absurd hl (by simp)
  · have hf' : w.params.followText "set-order" = false := Bool.eq_false_iff.mpr hf
    have hl : ledOf w = true := by unfold ledOf; rw [hf']; rfl
    refine wpAny_ite_split (fun hab => ?_) (fun _ => ?_)
    · have : (!t.plain && decide (es.size > 1)) = true := hab
      rw [hpl] at this
      exact absurd this (by simp)
    have hled : t.led = true := x.led.trans hl
    refine wpAny_bind (wpAny_of_eq (a := ()) ?_ ?_)
    · show (if (!t.led && !es.isEmpty) = true then _ else _) = _
      rw [hled]; rfl
    rw [hb hl]
    have e1 : es[i]? = some (es[i].1, es[i].2) := by simp [hi]
    have e2 : t.place[i]? = some t.place[i] := by simp [hsz, hi]
    rw [e1, e2]
    refine wpAny_pure (h _ _ ?_ (fun _ => below_le T.sorted (by omega)))
    unfold wordOf
    rw [if_neg (by rw [hf']; simp), e1]; rfl
theorem setNext_done {S : Addr} {es : Array (Int × Value)} {ep slot : Nat} {t : SetTable} {Q : Option (Value × Nat) → Shared → Prop} (x : SetObj w S es ep t s.heap) (hb : ledOf w = true → SetTable.below t.place slot = es.size)
    (h : Q none s) :
    wpAny (model prog w) A (setNext S slot es.size ep) Q E s := by
  obtain ⟨o, ho, hx, hd⟩ := x.at_
  have T := x.tab
  have hsz : t.place.size = es.size := by have := T.size; simpa using this
  have hws := word_size w S ep es
  have hpl := T.plain
  unfold setNext
  refine wpAny_bind (wpAny_setState_of ho hd T.fits ?_)
  dsimp only
  unfold setsByText
  refine wpAny_bind (wpAny_bind (wpAny_askSetting (wpAny_pure ?_)))
  refine wpAny_ite_split (fun hf => ?_) (fun hf => ?_)
  · have hf' : w.params.followText "set-order" = true := hf
    rw [if_neg (by simp)]
    unfold setWalk
    refine wpAny_bind ?_
    refine wpAny_bind (wpAny_setState_of ho hd T.fits ?_)
    dsimp only
    unfold setsByText
    refine wpAny_bind (wpAny_bind (wpAny_askSetting (wpAny_pure ?_)))
    rw [if_pos hf]
    refine wpAny_bind (wpAny_askSetting (wpAny_pure (wpAny_pure ?_)))
    have e : pickOrder (w.params.setOrder S ep) es = wordOf w S ep es := by unfold wordOf; rw [if_pos hf']
    show Q (((pickOrder (w.params.setOrder S ep) es)[es.size]?).map fun e => (e.2, slot)) s
    rw [e]
    have e2 : (wordOf w S ep es)[es.size]? = none := by rw [Array.getElem?_eq_none_iff]; omega
    rw [e2]
    exact h
  · have hf' : w.params.followText "set-order" = false := Bool.eq_false_iff.mpr hf
    have hl : ledOf w = true := by unfold ledOf; rw [hf']; rfl
    refine wpAny_ite_split (fun hab => ?_) (fun _ => ?_)
    · have : (!t.plain && decide (es.size > 1)) = true := hab
      rw [hpl] at this
      exact absurd this (by simp)
    have hled : t.led = true := x.led.trans hl
    refine wpAny_bind (wpAny_of_eq (a := ()) ?_ ?_)
    · show (if (!t.led && !es.isEmpty) = true then _ else _) = _
      rw [hled]; rfl
    rw [hb hl]
    have e1 : es[es.size]? = none := by simp
    rw [e1]
    exact wpAny_pure h
end
end Mine
end
/-! part TupWp -/
section
open PySem PySem.Calls PySem.W
namespace Mine

/-! tuples of ints compared -/
def cmpBody (op : CmpOp) (a b : Addr) : Sem PySem.Fin := do
  if !(← isInstance (.ref b) (.type "tuple")) then return ← ret .notImplemented
  let xs ← Builtin.Tuple.tupleItemsOf (.ref a)
  let ys ← Builtin.Tuple.tupleItemsOf (.ref b)
  for (x, y) in xs.toList.zip ys.toList do
    if !(← eqBool x y) then
      match op with
      | .Eq => return ← ret (.bool false)
      | .NotEq => return ← ret (.bool true)
      | _ => rule "tuple.compare.by-the-first-pair-that-differs"; return ← ret (← richCompare op x y)
  ret (Builtin.Tuple.tupleCompareSizes op xs.size ys.size)
theorem lt_body (a b : Addr) : Builtin.«tuple.__lt__» ⟨[.ref a, .ref b], []⟩ = cmpBody .Lt a b := rfl
theorem le_body (a b : Addr) : Builtin.«tuple.__le__» ⟨[.ref a, .ref b], []⟩ = cmpBody .LtE a b := rfl
theorem ne_body (a b : Addr) : Builtin.«tuple.__ne__» ⟨[.ref a, .ref b], []⟩ = cmpBody .NotEq a b := rfl

section
variable {prog : Program} {w : World} {A : Around} {E : Value → Shared → Prop} {s : Shared}

theorem cmp_tree {op : CmpOp} {f : List Int → List Int → Bool} {fi : Int → Int → Bool} {x y : List Int} {a b : Addr} {P : PySem.Fin → Shared → Prop}
    (hop : op = .Lt ∨ op = .LtE ∨ op = .NotEq)
    (hi : op ≠ .NotEq → ∀ (i j : Int) (t u : Tok) (Q : Value → Shared → Prop) (s : Shared), Q (.bool (fi i j)) s → wpAny (model prog w) A (richCompare op (.int i t) (.int j u)) Q E s)
    (hn : op = .NotEq → ∀ i j, i ≠ j → fi i j = true)
    (he : ∀ i x y, f (i :: x) (i :: y) = f x y) (hd : ∀ i j x y, i ≠ j → f (i :: x) (j :: y) = fi i j) (hz : ∀ x y, x = [] ∨ y = [] → Builtin.Tuple.tupleCompareSizes op x.length y.length = .bool (f x y))
    (hs : ∀ m n k, Builtin.Tuple.tupleCompareSizes op (m + k) (n + k) = Builtin.Tuple.tupleCompareSizes op m n)
    (hx : IsRow prog w s.heap x a) (hy : IsRow prog w s.heap y b) (h : P (.done (.ret (.bool (f x y)))) s) : wpAny (model prog w) A (cmpBody op a b) P E s := by
  have hTb := hy.typeIs
  obtain ⟨oa, xs, na, hoa, _, hda, hia⟩ := hx
  obtain ⟨ob, ys, nb, hob, _, hdb, hib⟩ := hy
  unfold cmpBody
  refine wpAny_bind (wpAny_isInstance hTb isSubtype_tuple_tuple ?_)
  simp only [Bool.not_true, Bool.false_eq_true, if_false]
  refine wpAny_bind (wpAny_tupleItemsOf hoa hda ?_)
  refine wpAny_bind (wpAny_tupleItemsOf hob hdb ?_)
  refine wpAny_bind ?_
  refine wpAny_forIn_list _
    (fun rest r s' => r.1 = none ∧ s' = s ∧ ∃ x' y' xs' ys' k, rest = List.zip xs' ys' ∧ ItemsAre (intKind prog w) x' xs' ∧ ItemsAre (intKind prog w) y' ys' ∧ f x' y' = f x y ∧ xs.size = xs'.length + k ∧ ys.size = ys'.length + k)
    _ ?_ ?_ _ _ ⟨rfl, rfl, x, y, xs.toList, ys.toList, 0, rfl, hia, hib, rfl, by simp, by simp⟩
  · rintro ⟨u, v⟩ rest r s' ⟨hr, rfl, x', y', xs', ys', k, hz', hx', hy', hdec, hl1, hl2⟩
    cases hx' with
    | nil => simp at hz'
    | @cons k1 u' x'' xs'' h1 hx'' =>
      cases hy' with
      | nil => simp at hz'
      | @cons k2 v' y'' ys'' h2 hy'' =>
        simp only [List.zip_cons_cons, List.cons.injEq, Prod.mk.injEq] at hz'
        obtain ⟨⟨rfl, rfl⟩, rfl⟩ := hz'
        obtain ⟨t1, rfl⟩ := Value.isInt_shape h1
        obtain ⟨t2, rfl⟩ := Value.isInt_shape h2
        refine wpAny_bind (wpAny_eqBool_int ?_)
        by_cases hk : k1 = k2
        · subst hk
          simp only [BEq.rfl, decide_true, Bool.not_true, Bool.false_eq_true, if_false]
          refine wpAny_pure ⟨rfl, rfl, x'', y'', xs'', ys'', k + 1, rfl, hx'', hy'', ?_, ?_, ?_⟩
          · rw [← hdec, he]
          · rw [List.length_cons] at hl1; omega
          · rw [List.length_cons] at hl2; omega
        · have hb : (k1 == k2) = false := by simpa using hk
          first | rw [hb] | rw [decide_eq_false hk]
          simp only [Bool.not_false, if_true]
          have hr' : f x y = fi k1 k2 := by rw [← hdec, hd _ _ _ _ hk]
          rcases hop with rfl | rfl | rfl
          · refine wpAny_bind (wpAny_rule (wpAny_bind (hi (by decide) _ _ _ _ _ _ ?_)))
            rw [← hr']
            exact wpAny_bind (wpAny_pure (wpAny_pure (wpAny_pure h)))
          · refine wpAny_bind (wpAny_rule (wpAny_bind (hi (by decide) _ _ _ _ _ _ ?_)))
            rw [← hr']
            exact wpAny_bind (wpAny_pure (wpAny_pure (wpAny_pure h)))
          · rw [hn rfl _ _ hk] at hr'
            rw [hr'] at h
            exact wpAny_bind (wpAny_pure (wpAny_pure (wpAny_pure h)))
  · rintro ⟨r1, r2⟩ s' ⟨hr, rfl, x', y', xs', ys', k, hz', hx', hy', hdec, hl1, hl2⟩
    simp only at hr
    subst hr
    refine wpAny_pure ?_
    have hnil : x' = [] ∨ y' = [] := by
      cases hx' with
      | nil => exact .inl rfl
      | cons _ _ =>
        cases hy' with
        | nil => exact .inr rfl
        | cons _ _ => simp at hz'
    have e := hz x' y' hnil
    rw [hx'.length, hy'.length] at e
    show P (.done (.ret (Builtin.Tuple.tupleCompareSizes op xs.size ys.size))) s'
    rw [hl1, hl2, hs, e, hdec]
    exact h

theorem lt_cons_self (i : Int) (x y : List Int) : decide (i :: x < i :: y) = decide (x < y) := by
  apply decide_eq_decide.mpr
  rw [List.cons_lt_cons_iff]
  exact ⟨fun h => h.elim (fun h => absurd h (Int.lt_irrefl i)) (·.2), fun h => .inr ⟨rfl, h⟩⟩
theorem lt_cons_ne {i j : Int} (x y : List Int) (h : i ≠ j) : decide (i :: x < j :: y) = decide (i < j) := by
  apply decide_eq_decide.mpr
  rw [List.cons_lt_cons_iff]
  exact ⟨fun h' => h'.elim id fun h' => absurd h'.1 h, .inl⟩
theorem le_cons_self (i : Int) (x y : List Int) : decide (i :: x ≤ i :: y) = decide (x ≤ y) := by
  apply decide_eq_decide.mpr
  rw [List.cons_le_cons_iff]
  exact ⟨fun h => h.elim (fun h => absurd h (Int.lt_irrefl i)) (·.2), fun h => .inr ⟨rfl, h⟩⟩
theorem le_cons_ne {i j : Int} (x y : List Int) (h : i ≠ j) : decide (i :: x ≤ j :: y) = decide (i ≤ j) := by
  apply decide_eq_decide.mpr
  rw [List.cons_le_cons_iff]
  exact ⟨fun h' => h'.elim Int.le_of_lt fun h' => absurd h'.1 h, fun h' => .inl (Int.lt_iff_le_and_ne.mpr ⟨h', h⟩)⟩

theorem lt_tree {x y : List Int} {a b : Addr} {P : PySem.Fin → Shared → Prop} (hx : IsRow prog w s.heap x a) (hy : IsRow prog w s.heap y b) (h : P (.done (.ret (.bool (decide (x < y))))) s) :
    wpAny (model prog w) A (Builtin.«tuple.__lt__» ⟨[.ref a, .ref b], []⟩) P E s := by
  rw [lt_body]
  refine cmp_tree (op := .Lt) (f := fun x y => decide (x < y)) (fi := fun i j => decide (i < j)) (.inl rfl) (fun _ i j t u Q s hQ => PyProof.Rows.lt_int hQ) (fun h => nomatch h) lt_cons_self (fun i j x y h => lt_cons_ne x y h) ?_ ?_ hx hy h
  · intro x y h
    show Value.bool (decide (x.length < y.length)) = _
    rcases h with rfl | rfl
    · cases y <;> simp
    · cases x <;> simp
  · intro m n k
    show Value.bool (decide (m + k < n + k)) = Value.bool (decide (m < n))
    congr 1
    apply decide_eq_decide.mpr; omega
theorem le_tree {x y : List Int} {a b : Addr} {P : PySem.Fin → Shared → Prop} (hx : IsRow prog w s.heap x a) (hy : IsRow prog w s.heap y b) (h : P (.done (.ret (.bool (decide (x ≤ y))))) s) :
    wpAny (model prog w) A (Builtin.«tuple.__le__» ⟨[.ref a, .ref b], []⟩) P E s := by
  rw [le_body]
  refine cmp_tree (op := .LtE) (f := fun x y => decide (x ≤ y)) (fi := fun i j => decide (i ≤ j)) (.inr (.inl rfl)) (fun _ i j t u Q s hQ => PyProof.Rows.le_int hQ) (fun h => nomatch h) le_cons_self (fun i j x y h => le_cons_ne x y h) ?_ ?_ hx hy h
  · intro x y h
    show Value.bool (decide (x.length ≤ y.length)) = _
    congr 1
    apply decide_eq_decide.mpr
    rcases h with rfl | rfl
    · exact ⟨fun _ => List.not_lt.mp (List.not_lt_nil y), fun _ => Nat.zero_le _⟩
    · cases x with
      | nil => exact ⟨fun _ => List.not_lt.mp (List.not_lt_nil []), fun _ => Nat.le_refl _⟩
      | cons i x => exact ⟨fun h => absurd h (by simp), fun h => absurd (List.nil_lt_cons i x) (List.not_lt.mpr h)⟩
  · intro m n k
    show Value.bool (decide (m + k ≤ n + k)) = Value.bool (decide (m ≤ n))
    congr 1
    apply decide_eq_decide.mpr; omega
theorem ne_tree {x y : List Int} {a b : Addr} {P : PySem.Fin → Shared → Prop} (hx : IsRow prog w s.heap x a) (hy : IsRow prog w s.heap y b) (h : P (.done (.ret (.bool (decide (x ≠ y))))) s) :
    wpAny (model prog w) A (Builtin.«tuple.__ne__» ⟨[.ref a, .ref b], []⟩) P E s := by
  rw [ne_body]
  refine cmp_tree (op := .NotEq) (f := fun x y => decide (x ≠ y)) (fi := fun i j => decide (i ≠ j)) (.inr (.inr rfl)) (fun h => absurd rfl h) (fun _ i j h => decide_eq_true h) ?_ ?_ ?_ ?_ hx hy h
  · intro i x y; simp
  · intro i j x y h; simp [h]
  · intro x y h
    show Value.bool (x.length != y.length) = _
    congr 1
    rcases h with rfl | rfl
    · cases y with
      | nil => rfl
      | cons j y => rfl
    · cases x with
      | nil => rfl
      | cons i x => rfl
  · intro m n k
    show Value.bool (m + k != n + k) = Value.bool (m != n)
    have e : (m + k != n + k) = (m != n) := by
      rw [Bool.eq_iff_iff, bne_iff_ne, bne_iff_ne]
      omega
    rw [e]

/-! the operators -/
theorem le_rows {x y : List Int} {a b : Addr} {Q : Value → Shared → Prop} (hu : A.units < cLine) (hx : IsRow prog w s.heap x a) (hy : IsRow prog w s.heap y b) (h : Q (.bool (decide (x ≤ y))) s) :
    wpAny (model prog w) A (compareOp .LtE (.ref a) (.ref b)) Q E s :=
  show wpAny (model prog w) A (richCompare .LtE (.ref a) (.ref b)) Q E s from
  wpAny_richCompare_same_room (op := .LtE) hx.typeIs hy.typeIs F.slot_tuple_le (wpAny_call_entry F.slot_tuple_le hx.typeIs F.entry_tuple_le (le_tree hx hy ⟨_, rfl, (fun e => nomatch e), h⟩) (F.args_tuple_le_2 _ _)) hu
theorem lt_rows {x y : List Int} {a b : Addr} {Q : Value → Shared → Prop} (hu : A.units < cLine) (hx : IsRow prog w s.heap x a) (hy : IsRow prog w s.heap y b) (h : Q (.bool (decide (x < y))) s) :
    wpAny (model prog w) A (richCompare .Lt (.ref a) (.ref b)) Q E s :=
  wpAny_richCompare_same_room (op := .Lt) hx.typeIs hy.typeIs F.slot_tuple_lt (wpAny_call_entry F.slot_tuple_lt hx.typeIs F.entry_tuple_lt (lt_tree hx hy ⟨_, rfl, (fun e => nomatch e), h⟩) (F.args_tuple_lt_2 _ _)) hu
theorem ne_rows {x y : List Int} {a b : Addr} {Q : Value → Shared → Prop} (hu : A.units < cLine) (hx : IsRow prog w s.heap x a) (hy : IsRow prog w s.heap y b) (h : Q (.bool (decide (x ≠ y))) s) :
    wpAny (model prog w) A (compareOp .NotEq (.ref a) (.ref b)) Q E s :=
  show wpAny (model prog w) A (richCompare .NotEq (.ref a) (.ref b)) Q E s from
  wpAny_richCompare_same_room (op := .NotEq) hx.typeIs hy.typeIs F.slot_tuple_ne (wpAny_call_entry F.slot_tuple_ne hx.typeIs F.entry_tuple_ne (ne_tree hx hy ⟨_, rfl, (fun e => nomatch e), h⟩) (F.args_tuple_ne_2 _ _)) hu

/-! a row asked about another by the sort -/
theorem oneLt_rows {x y : List Int} {a b : Addr} {bb : Bool} {Q : Bool → Shared → Prop} (hu : A.units < cLine) (hx : IsRow prog w s.heap x a) (hy : IsRow prog w s.heap y b) (h : Q (decide (x < y)) s) :
    wpAny (model prog w) A (PyProof.Rows.oneLt' bb (.ref a) (.ref b)) Q E s := by
  rw [PyProof.Rows.oneLt'_eq]
  cases bb with
  | true =>
    simp only [if_true]
    refine wpAny_bind (wpAny_cRoomFor hu ?_)
    refine wpAny_bind (wpAny_callSpecialIfBound?_slot hx.typeIs F.slot_tuple_lt (wpAny_call_entry F.slot_tuple_lt hx.typeIs F.entry_tuple_lt (lt_tree hx hy ⟨_, rfl, ?_⟩) (F.args_tuple_lt_2 _ _)))
    exact wpAny_truthy_bool h
  | false =>
    simp only [Bool.false_eq_true, if_false]
    exact wpAny_bind (lt_rows hu hx hy (wpAny_truthy_bool h))
theorem lex_rows {bb : Bool} {fin : Bool} {Q : Bool → Shared → Prop} {x y : List Int} {xs ys : List Value} (hx : ItemsAre (intKind prog w) x xs) (hy : ItemsAre (intKind prog w) y ys) (hfin : ∀ k : Nat, k ≤ x.length → k ≤ y.length → x.take k = y.take k → (x.drop k = [] ∨ y.drop k = []) → fin = decide (x < y)) (h : Q (decide (x < y)) s) :
    ∀ i, KatLex prog w A bb fin Q (xs.zip ys) i s := by
  induction hx generalizing y ys with
  | nil =>
    intro i
    rw [List.zip_nil_left]
    refine kat_nil ?_
    rw [hfin 0 (Nat.zero_le _) (Nat.zero_le _) rfl (.inl rfl)]; exact h
  | @cons k1 u' x'' xs'' h1 hx'' ih =>
    intro i
    cases hy with
    | nil =>
      rw [List.zip_nil_right]
      refine kat_nil ?_
      rw [hfin 0 (Nat.zero_le _) (Nat.zero_le _) rfl (.inr rfl)]; exact h
    | @cons k2 v' y'' ys'' h2 hy'' =>
      obtain ⟨t1, rfl⟩ := Value.isInt_shape h1
      obtain ⟨t2, rfl⟩ := Value.isInt_shape h2
      rw [List.zip_cons_cons]
      refine kat_cons (wpAny_eqBool_int ?_)
      by_cases hk : k1 = k2
      · subst hk
        simp only [BEq.rfl, decide_true]
        refine kat_yes (ih hy'' (fun k a b c d => ?_) ?_ (i + 1))
        · have := hfin (k + 1) (by simpa using a) (by simpa using b) (by simpa using c) (by simpa using d)
          rw [this, lt_cons_self]
        · rw [lt_cons_self] at h; exact h
      · have hb : (k1 == k2) = false := by simpa using hk
        first | rw [hb] | rw [decide_eq_false hk]
        refine kat_no ?_
        rw [lt_cons_ne _ _ hk] at h
        cases bb && i == 0 with
        | true => exact PyProof.Rows.oneLt_int h
        | false => exact kat_one _ _ (PyProof.Rows.lt_int (by exact h))
end
end Mine
end
/-! part SortMath -/
section
open PySem PySem.W PyProof.Rows
namespace Mine

/-! the sort's tree of questions, answered by a total order -/
def good {α : Type} (n : Nat) (lt : Nat → Nat → Bool) : KasT α → (α → Prop) → Prop
  | .ret a, Q => Q a
  | .ask i j k, Q => i < n ∧ j < n ∧ good n lt (k (lt i j)) Q
theorem good_bind {α β : Type} {n : Nat} {lt : Nat → Nat → Bool} {f : α → KasT β} {Q : β → Prop} : ∀ (t : KasT α), good n lt t (fun a => good n lt (f a) Q) → good n lt (t.bind f) Q
  | .ret _, h => h
  | .ask i j k, h => ⟨h.1, h.2.1, good_bind (k (lt i j)) h.2.2⟩
theorem good_mono {α : Type} {n : Nat} {lt : Nat → Nat → Bool} {Q Q' : α → Prop} (hq : ∀ a, Q a → Q' a) : ∀ (t : KasT α), good n lt t Q → good n lt t Q'
  | .ret a, h => hq a h
  | .ask i j k, h => ⟨h.1, h.2.1, good_mono hq (k (lt i j)) h.2.2⟩
theorem kasWp_good {α : Type} {n : Nat} {lt : Nat → Nat → Bool} {cmp : Nat → Nat → (Bool → Shared → Prop) → Shared → Prop} {s : Shared} (hc : ∀ i j (C : Bool → Shared → Prop), i < n → j < n → C (lt i j) s → cmp i j C s) {Q : α → Prop} {Q' : α → Shared → Prop} (hq : ∀ a, Q a → Q' a s) :
    ∀ (t : KasT α), good n lt t Q → t.kasWp cmp Q' s
  | .ret a, h => hq a h
  | .ask i j k, h => hc i j _ h.1 h.2.1 (kasWp_good hc hq (k (lt i j)) h.2.2)

section
variable (O : KeyOrd) (key : Nat → O.α) (n : Nat)
def ltK (i j : Nat) : Bool := O.blt (key i) (key j)
def kp (p : Array Nat) (i : Nat) : O.α := key (p.getD i 0)
def SortedT (p : Array Nat) (k : Nat) : Prop := ∀ i j, i ≤ j → j < k → O.kle (kp O key p i) (kp O key p j)
def NonInc (p : Array Nat) (k : Nat) : Prop := ∀ i j, i ≤ j → j < k → O.kle (kp O key p j) (kp O key p i)
def PermN (p : Array Nat) : Prop := p.Perm (List.range n).toArray
variable {O key n}
theorem PermN.size {p : Array Nat} (h : PermN n p) : p.size = n := by have := Array.Perm.size_eq h; simpa using this
theorem PermN.lt {p : Array Nat} (h : PermN n p) {i : Nat} (hi : i < n) : p.getD i 0 < n := by
  have hs := h.size
  have hi' : i < p.size := by omega
  have e : p.getD i 0 = p[i] := by simp [Array.getD, hi']
  rw [e]
  have hm : p[i] ∈ (List.range n) := by
    have := (Array.perm_iff_toList_perm.mp h).mem_iff (a := p[i])
    exact this.mp (by simp)
  exact List.mem_range.mp hm
theorem kp_of {p q : Array Nat} {i j : Nat} (h : p[i]? = q[j]?) : kp O key p i = kp O key q j := by
  unfold kp
  have e : p.getD i 0 = q.getD j 0 := by rw [Array.getD_eq_getD_getElem?, Array.getD_eq_getD_getElem?, h]
  rw [e]
theorem PermN.rev {p : Array Nat} (h : PermN n p) (i j : Nat) : PermN n (kas_rev p i j) := (mirror_perm p i j _).trans h
theorem PermN.bub {p : Array Nat} (h : PermN n p) (i j : Nat) : PermN n (bubble p i j) := (bubble_perm p i j).trans h
theorem kp_rev {p : Array Nat} {i j : Nat} (hj : j ≤ p.size) (k : Nat) : kp O key (kas_rev p i j) k = if i ≤ k ∧ k < j then kp O key p (i + j - 1 - k) else kp O key p k := by
  have e := getElem?_mirror_all (xs := p) (i := i) hj k
  by_cases h : i ≤ k ∧ k < j
  · rw [if_pos h] at e ⊢; exact kp_of e
  · rw [if_neg h] at e ⊢; exact kp_of e
theorem kp_rev_eq {p : Array Nat} {i j : Nat} (hj : j ≤ p.size) (he : ∀ k, i ≤ k → k < j → kp O key p k = kp O key p (j - 1)) (k : Nat) : kp O key (kas_rev p i j) k = kp O key p k := by
  rw [kp_rev hj]
  by_cases h : i ≤ k ∧ k < j
  · rw [if_pos h, he _ (by omega) (by omega), he k h.1 h.2]
  · rw [if_neg h]
theorem kp_bub {p : Array Nat} {src d : Nat} (hs : src < p.size) (hd : d ≤ src) (k : Nat) : kp O key (bubble p src d) k = if k = src - d then kp O key p src else if src - d < k ∧ k ≤ src then kp O key p (k - 1) else kp O key p k := by
  have e := getElem?_bubble hs d hd k
  by_cases h : k = src - d
  · rw [if_pos h] at e ⊢; exact kp_of e
  · rw [if_neg h] at e ⊢
    by_cases h2 : src - d < k ∧ k ≤ src
    · rw [if_pos h2] at e ⊢; exact kp_of e
    · rw [if_neg h2] at e ⊢; exact kp_of e
theorem SortedT.one {p : Array Nat} {k : Nat} (hk : k ≤ 1) : SortedT O key p k := fun i j hij hj => by
  have : i = j := by omega
  subst this; exact KeyOrd.kle_refl _
theorem SortedT.more {p : Array Nat} {k : Nat} (h : SortedT O key p k) (hn : O.kle (kp O key p (k - 1)) (kp O key p k)) : SortedT O key p (k + 1) := fun i j hij hj => by
  by_cases h1 : j < k
  · exact h i j hij h1
  · have : j = k := by omega
    subst this
    by_cases h2 : i = j
    · subst h2; exact KeyOrd.kle_refl _
    · exact KeyOrd.kle_trans (h i (j - 1) (by omega) (by omega)) hn
theorem NonInc.more {p : Array Nat} {k : Nat} (h : NonInc O key p k) (hn : O.kle (kp O key p k) (kp O key p (k - 1))) : NonInc O key p (k + 1) := fun i j hij hj => by
  by_cases h1 : j < k
  · exact h i j hij h1
  · have : j = k := by omega
    subst this
    by_cases h2 : i = j
    · subst h2; exact KeyOrd.kle_refl _
    · exact KeyOrd.kle_trans hn (h i (j - 1) (by omega) (by omega))

theorem asc_good {p : Array Nat} (hp : PermN n p) {Q : Nat → Prop} {N : Nat} (hN : N ≤ n) (hQ : ∀ m, 1 ≤ m → m ≤ N → SortedT O key p m → (m = N ∨ O.klt (kp O key p m) (kp O key p (m - 1))) → Q m) :
    ∀ (f a : Nat), 1 ≤ a → a + f = N → SortedT O key p a → good n (ltK O key) (kas_asc p f a) Q
  | 0, a, h1, h2, h3 => hQ a h1 (by omega) h3 (.inl (by omega))
  | f + 1, a, h1, h2, h3 => by
    refine ⟨hp.lt (by omega), hp.lt (by omega), ?_⟩
    show good n (ltK O key) (if O.blt (kp O key p a) (kp O key p (a - 1)) = true then KasT.ret a else kas_asc p f (a + 1)) Q
    by_cases hc : O.blt (kp O key p a) (kp O key p (a - 1)) = true
    · rw [if_pos hc]
      exact hQ a h1 (by omega) h3 (.inr hc)
    · rw [if_neg hc]
      exact asc_good hp hN hQ f (a + 1) (by omega) (by omega) (h3.more (by simpa [KeyOrd.kle] using hc))
theorem desc_good {Q : Array Nat × Nat × Nat → Prop} {N : Nat} (hN : N ≤ n)
    (hQ : ∀ p m q, PermN n p → 1 ≤ m → m ≤ N → NonInc O key p m → q + 1 ≤ m → (∀ i, m - (q + 1) ≤ i → i < m → kp O key p i = kp O key p (m - 1)) → Q (p, m, q)) :
    ∀ (f : Nat) (p : Array Nat) (a q : Nat), PermN n p → 1 ≤ a → a + f = N → NonInc O key p a → q + 1 ≤ a → (∀ i, a - (q + 1) ≤ i → i < a → kp O key p i = kp O key p (a - 1)) → good n (ltK O key) (kas_desc f p a q) Q
  | 0, p, a, q, hp, h1, h2, h3, h4, h5 => hQ p a q hp h1 (by omega) h3 h4 h5
  | f + 1, p, a, q, hp, h1, h2, h3, h4, h5 => by
    have hs := hp.size
    refine ⟨hp.lt (by omega), hp.lt (by omega), ?_⟩
    show good n (ltK O key) (if O.blt (kp O key p a) (kp O key p (a - 1)) = true then (if q > 0 then kas_desc f (kas_rev p (a - (q + 1)) a) (a + 1) 0 else kas_desc f p (a + 1) 0)
      else .ask (p.getD (a - 1) 0) (p.getD a 0) fun d => if d = true then .ret (p, a, q) else kas_desc f p (a + 1) (q + 1)) Q
    by_cases hc : O.blt (kp O key p a) (kp O key p (a - 1)) = true
    · rw [if_pos hc]
      by_cases hq : q > 0
      · rw [if_pos hq]
        have he := kp_rev_eq (O := O) (key := key) (p := p) (i := a - (q + 1)) (j := a) (by omega) h5
        refine desc_good hN hQ f _ (a + 1) 0 (hp.rev _ _) (by omega) (by omega) ?_ (by omega) (fun i h6 h7 => by rw [show i = a + 1 - 1 by omega])
        have h3' : NonInc O key (kas_rev p (a - (q + 1)) a) a := fun i j hij hj => by rw [he, he]; exact h3 i j hij hj
        exact h3'.more (by rw [he, he]; exact KeyOrd.kle_of_klt hc)
      · rw [if_neg hq]
        exact desc_good hN hQ f p (a + 1) 0 hp (by omega) (by omega) (h3.more (KeyOrd.kle_of_klt hc)) (by omega) (fun i h6 h7 => by rw [show i = a + 1 - 1 by omega])
    · rw [if_neg hc]
      refine ⟨hp.lt (by omega), hp.lt (by omega), ?_⟩
      show good n (ltK O key) (if O.blt (kp O key p (a - 1)) (kp O key p a) = true then .ret (p, a, q) else kas_desc f p (a + 1) (q + 1)) Q
      by_cases hd : O.blt (kp O key p (a - 1)) (kp O key p a) = true
      · rw [if_pos hd]
        exact hQ p a q hp h1 (by omega) h3 h4 h5
      · rw [if_neg hd]
        have heq : kp O key p a = kp O key p (a - 1) := O.total _ _ (by simpa using hc) (by simpa using hd)
        refine desc_good hN hQ f p (a + 1) (q + 1) hp (by omega) (by omega) (h3.more (by rw [heq]; exact KeyOrd.kle_refl _)) (by omega) fun i h6 h7 => ?_
        rw [show a + 1 - 1 = a by omega]
        by_cases hi : i = a
        · rw [hi]
        · rw [heq]; exact h5 i (by omega) (by omega)
theorem tail3_good {p : Array Nat} (hp : PermN n p) {Q : Nat × Array Nat → Prop} {N m : Nat} (hN : N ≤ n) (h1 : 1 ≤ m) (hm : m ≤ N) (hs : NonInc O key p m)
    (hQ : ∀ m' p', PermN n p' → 1 ≤ m' → m' ≤ N → SortedT O key p' m' → Q (m', p')) : good n (ltK O key) (kas_tail3 m N p) Q := by
  unfold kas_tail3
  have hsz := hp.size
  refine good_bind _ (asc_good (hp.rev 0 m) hN (fun m' a b c _ => hQ m' _ (hp.rev 0 m) a b c) (N - m) m h1 (by omega) fun i j hij hj => ?_)
  rw [kp_rev (by omega), kp_rev (by omega), if_pos (by omega), if_pos (by omega)]
  exact hs _ _ (by omega) (by omega)
theorem descPart_good {p : Array Nat} (hp : PermN n p) {Q : Nat × Array Nat → Prop} {N m : Nat} (hN : N ≤ n) (h1 : 1 ≤ m) (hm : m + 1 ≤ N) (hs : NonInc O key p (m + 1))
    (hQ : ∀ m' p', PermN n p' → 1 ≤ m' → m' ≤ N → SortedT O key p' m' → Q (m', p')) : good n (ltK O key) (kas_descPart m N p) Q := by
  unfold kas_descPart
  refine good_bind _ (desc_good hN (fun p' m' q hp' a b c d e => ?_) (N - (m + 1)) p (m + 1) 0 hp (by omega) (by omega) hs (by omega) (fun i h6 h7 => by rw [show i = m + 1 - 1 by omega]))
  have hsz := hp'.size
  dsimp only
  by_cases hq : q > 0
  · rw [if_pos hq]
    have he := kp_rev_eq (O := O) (key := key) (p := p') (i := m' - (q + 1)) (j := m') (by omega) e
    exact tail3_good (hp'.rev _ _) hN a b (fun i j hij hj => by rw [he, he]; exact c i j hij hj) hQ
  · rw [if_neg hq]
    exact tail3_good hp' hN a b c hQ
theorem count_good {p : Array Nat} (hp : PermN n p) {Q : Nat × Array Nat → Prop} {N : Nat} (hN : N ≤ n) (h1 : 1 ≤ N)
    (hQ : ∀ m' p', PermN n p' → 1 ≤ m' → m' ≤ N → SortedT O key p' m' → Q (m', p')) : good n (ltK O key) (kas_count N p) Q := by
  unfold kas_count
  have hsz := hp.size
  refine good_bind _ (asc_good hp hN (fun m a b c d => ?_) (N - 1) 1 (Nat.le_refl _) (by omega) (SortedT.one (Nat.le_refl _)))
  by_cases e1 : (m == N) = true
  · rw [if_pos e1]
    exact hQ m p hp a b c
  · rw [if_neg e1]
    have hmN : m ≠ N := by simpa using e1
    have hlt := d.resolve_left hmN
    by_cases e2 : m > 1
    · rw [if_pos e2]
      refine ⟨hp.lt (by omega), hp.lt (by omega), ?_⟩
      show good n (ltK O key) (if O.blt (kp O key p 0) (kp O key p (m - 1)) = true then .ret (m, p) else kas_descPart m N (kas_rev p 0 m)) Q
      by_cases hc : O.blt (kp O key p 0) (kp O key p (m - 1)) = true
      · rw [if_pos hc]
        exact hQ m p hp a b c
      · rw [if_neg hc]
        have hc' : O.kle (kp O key p (m - 1)) (kp O key p 0) := by simpa [KeyOrd.kle] using hc
        have hall : ∀ k, 0 ≤ k → k < m → kp O key p k = kp O key p (m - 1) := fun k _ hk =>
          KeyOrd.kle_antisymm (c k (m - 1) (by omega) (by omega)) (KeyOrd.kle_trans hc' (c 0 k (by omega) hk))
        have he := kp_rev_eq (O := O) (key := key) (p := p) (i := 0) (j := m) (by omega) hall
        refine descPart_good (hp.rev _ _) hN a (by omega) (fun i j hij hj => ?_) hQ
        rw [he, he]
        by_cases hj' : j < m
        · rw [hall i (by omega) (by omega), hall j (by omega) hj']; exact KeyOrd.kle_refl _
        · have : j = m := by omega
          subst this
          by_cases hi : i = j
          · subst hi; exact KeyOrd.kle_refl _
          · rw [hall i (by omega) (by omega)]; exact KeyOrd.kle_of_klt hlt
    · rw [if_neg e2]
      have : m = 1 := by omega
      subst this
      refine descPart_good hp hN a (by omega) (fun i j hij hj => ?_) hQ
      by_cases hi : i = j
      · subst hi; exact KeyOrd.kle_refl _
      · have hi0 : i = 0 := by omega
        have hj1 : j = 1 := by omega
        subst hi0; subst hj1
        exact KeyOrd.kle_of_klt hlt
theorem place_good {p : Array Nat} (hp : PermN n p) {k : Nat} (hk : k < n) (hs : SortedT O key p k) {Q : Nat → Prop}
    (hQ : ∀ l, l ≤ k → (∀ i, i < l → O.kle (kp O key p i) (kp O key p k)) → (∀ i, l ≤ i → i < k → O.klt (kp O key p k) (kp O key p i)) → Q l) :
    ∀ (f l r : Nat), l ≤ r → r ≤ k → r - l ≤ f → (∀ i, i < l → O.kle (kp O key p i) (kp O key p k)) → (∀ i, r ≤ i → i < k → O.klt (kp O key p k) (kp O key p i)) → good n (ltK O key) (kas_place p k f l r) Q
  | 0, l, r, h1, h2, h3, h4, h5 => hQ l (by omega) h4 fun i hi hik => h5 i (by omega) hik
  | f + 1, l, r, h1, h2, h3, h4, h5 => by
    unfold kas_place
    by_cases hlr : l ≥ r
    · rw [if_pos hlr]
      exact hQ l (by omega) h4 fun i hi hik => h5 i (by omega) hik
    · rw [if_neg hlr]
      refine ⟨hp.lt hk, hp.lt (by omega), ?_⟩
      show good n (ltK O key) (if O.blt (kp O key p k) (kp O key p ((l + r) / 2)) = true then kas_place p k f l ((l + r) / 2) else kas_place p k f ((l + r) / 2 + 1) r) Q
      by_cases hc : O.blt (kp O key p k) (kp O key p ((l + r) / 2)) = true
      · rw [if_pos hc]
        exact place_good hp hk hs hQ f l _ (by omega) (by omega) (by omega) h4 fun i hi hik => KeyOrd.klt_of_klt_of_kle hc (hs _ _ hi hik)
      · rw [if_neg hc]
        have hc' : O.kle (kp O key p ((l + r) / 2)) (kp O key p k) := by simpa [KeyOrd.kle] using hc
        exact place_good hp hk hs hQ f _ r (by omega) h2 (by omega) (fun i hi => KeyOrd.kle_trans (hs i _ (by omega) (by omega)) hc') h5
theorem bin_good {Q : Array Nat → Prop} {N : Nat} (hN : N ≤ n) (hQ : ∀ p, PermN n p → SortedT O key p N → Q p) :
    ∀ (f : Nat) (p : Array Nat) (k : Nat), PermN n p → k + f = N → SortedT O key p k → good n (ltK O key) (kas_bin f p k) Q
  | 0, p, k, hp, h1, h2 => hQ p hp (by rw [← h1]; exact h2)
  | f + 1, p, k, hp, h1, h2 => by
    unfold kas_bin
    have hsz := hp.size
    refine good_bind _ (place_good hp (by omega) h2 (fun l hl hlo hhi => ?_) k 0 k (Nat.zero_le _) (Nat.le_refl _) (by omega) (fun i hi => absurd hi (Nat.not_lt_zero _)) (fun i h3 h4 => absurd h4 (Nat.not_lt.mpr h3)))
    refine bin_good hN hQ f _ (k + 1) (hp.bub _ _) (by omega) fun i j hij hj => ?_
    have hks : k < p.size := by omega
    rw [kp_bub hks (by omega), kp_bub hks (by omega), show k - (k - l) = l by omega]
    repeat' split
    all_goals first
      | (exfalso; omega)
      | exact KeyOrd.kle_refl _
      | exact hlo _ (by omega)
      | exact KeyOrd.kle_of_klt (hhi _ (by omega) (by omega))
      | exact h2 _ _ (by omega) (by omega)
theorem sort_good {Q : Array Nat → Prop} (h1 : 1 ≤ n) (hQ : ∀ p, PermN n p → SortedT O key p n → Q p) : good n (ltK O key) (kas_sort n) Q := by
  unfold kas_sort
  refine good_bind _ (count_good (p := (List.range n).toArray) (Array.Perm.refl _) (Nat.le_refl _) h1 fun m p hp a b c => ?_)
  dsimp only
  by_cases hm : m < n
  · rw [if_pos hm]
    have e : max m 1 = m := by omega
    rw [e]
    exact bin_good (Nat.le_refl _) hQ (n - m) p m hp (by omega) c
  · rw [if_neg hm]
    have : m = n := by omega
    subst this
    exact hQ p hp c
end
end Mine
end
/-! part SortWp -/
section
open PySem PySem.Calls PySem.W PyProof.Rows
namespace Mine

@[reducible] def rowOrd : KeyOrd where
  α := List Int
  blt a b := decide (a < b)
  irrefl a := by simpa using List.lt_irrefl a
  trans a b c h1 h2 := by simp only [decide_eq_true_eq] at *; exact List.lt_trans h1 h2
  negTrans a b c h := by
    simp only [decide_eq_true_eq] at *
    by_cases hab : a < b
    · exact .inl hab
    · exact .inr (List.lt_of_le_of_lt (List.not_lt.mp hab) h)
  total a b h1 h2 := by simp only [decide_eq_false_iff_not] at *; exact List.le_antisymm (List.not_lt.mp h2) (List.not_lt.mp h1)

section
variable {prog : Program} {w : World} {A : Around} {E : Value → Shared → Prop} {s : Shared}

theorem mapM_pure {α β : Type} {M : Model} {f : α → Sem β} (g : α → β) : ∀ (l : List α) {Q : List β → Shared → Prop}, (∀ v ∈ l, ∀ (Q' : β → Shared → Prop), Q' (g v) s → wpAny M A (f v) Q' E s) → Q (l.map g) s → wpAny M A (l.mapM f) Q E s
  | [], _, _, h => by rw [List.mapM_nil]; exact wpAny_pure h
  | x :: l, Q, hf, h => by
    rw [List.mapM_cons]
    exact wpAny_bind (hf x (.head _) _ (wpAny_bind (mapM_pure g l (Q := fun bs s' => wpAny M A (pure (g x :: bs)) Q E s') (fun v hv => hf v (.tail _ hv)) (wpAny_pure h))))
def Kd (κ : SortKind) : Prop := (∃ b, κ = tuples' b) ∨ κ = general' ∨ κ = oneType'
theorem oneTypeOnly_any {vs : List Value} {Q : Option Value → Shared → Prop} (g : Value → Value) (hT : ∀ v ∈ vs, ∀ (Q' : Value → Shared → Prop), Q' (g v) s → wpAny (model prog w) A (typeOf v) Q' E s) (h : ∀ r, Q r s) : wpAny (model prog w) A (oneTypeOnly' vs.toArray) Q E s := by
  rw [oneTypeOnly'_eq, List.mapM_toArray, map_eq_pure_bind]
  refine wpAny_bind (wpAny_bind (mapM_pure g vs hT (wpAny_pure ?_)))
  split
  · exact wpAny_pure (h _)
  · exact wpAny_pure (h _)
theorem kind_rows {vs : List Value} {Q : SortKind → Shared → Prop} (hr : ∀ v ∈ vs, ∃ a r, v = .ref a ∧ IsRow prog w s.heap r a) (h : ∀ κ, Kd κ → Q κ s) : wpAny (model prog w) A (keyKind' vs.toArray) Q E s := by
  have hf : ∀ v, ∃ x : Option Value, (∃ a r, v = .ref a ∧ IsRow prog w s.heap r a) → (∀ y, x = some y → ∃ i t, y = .int i t) ∧ ∀ (Q' : Option Value → Shared → Prop), Q' x s → wpAny (model prog w) A (firstOfTuple' v) Q' E s := by
    intro v
    by_cases hv : ∃ a r, v = .ref a ∧ IsRow prog w s.heap r a
    · obtain ⟨a, r, rfl, hrow⟩ := hv
      have hT := hrow.typeIs
      obtain ⟨o, items, n, ho, hc, hd, hi⟩ := hrow
      refine ⟨items[0]?, fun _ => ⟨fun y hy => ?_, fun Q' hq => ?_⟩⟩
      · rw [← Array.getElem?_toList] at hy
        generalize items.toList = its at hi hy
        cases hi with
        | nil => simp at hy
        | cons h1 _ => simp at hy; subst hy; obtain ⟨t, e⟩ := Value.isInt_shape h1; exact ⟨_, t, e⟩
      · rw [kas_first_eq]
        refine wpAny_bind (wpAny_typeOf hT ?_)
        rw [if_neg (by simp)]
        exact wpAny_bind (listItems_at ho hd (wpAny_pure hq))
    · exact ⟨none, fun h => absurd h hv⟩
  have hg : ∃ g : Value → Option Value, ∀ v ∈ vs, (∀ y, g v = some y → ∃ i t, y = .int i t) ∧ ∀ (Q' : Option Value → Shared → Prop), Q' (g v) s → wpAny (model prog w) A (firstOfTuple' v) Q' E s :=
    ⟨fun v => (hf v).choose, fun v hv => (hf v).choose_spec (hr v hv)⟩
  obtain ⟨g, hg⟩ := hg
  rw [kat_kind_eq, List.mapM_toArray, map_eq_pure_bind]
  refine wpAny_bind (wpAny_bind (mapM_pure g vs (fun v hv => (hg v hv).2) (wpAny_pure ?_)))
  split
  · refine wpAny_bind (wpAny_rule ?_)
    have e : ((vs.map g).toArray.filterMap id) = ((vs.map g).filterMap id).toArray := by simp
    rw [e]
    refine wpAny_bind (oneTypeOnly_any (fun _ => .type "int") (fun v hv Q' hq => ?_) fun r => wpAny_pure (h _ (.inl ⟨_, rfl⟩)))
    obtain ⟨x, hx, e'⟩ := List.mem_filterMap.mp hv
    obtain ⟨u, hu, rfl⟩ := List.mem_map.mp hx
    obtain ⟨i, t, rfl⟩ := (hg u hu).1 _ e'
    exact wpAny_typeOf (typeIs_int s i t) hq
  · split
    · exact wpAny_pure (h _ (.inr (.inl rfl)))
    · refine wpAny_bind (oneTypeOnly_any (fun _ => .type "tuple") (fun v hv Q' hq => ?_) fun r => ?_)
      · obtain ⟨a, q, rfl, hrow⟩ := hr v hv
        exact wpAny_typeOf hrow.typeIs hq
      · split
        · exact wpAny_pure (h _ (.inr (.inr rfl)))
        · exact wpAny_pure (h _ (.inr (.inl rfl)))

theorem size_items {h : Heap} {r : List Int} {a : Addr} {o : Obj} {items : Array Value} {n : Nat} (x : ItemsAre (intKind prog w) r items.toList) : items.size = r.length := by
  have := x.length; simpa using this.symm
theorem keyLt_rows {κ : SortKind} (hκ : Kd κ) {x y : List Int} {a b : Addr} {Q : Bool → Shared → Prop} (hu : A.units < cLine) (hx : IsRow prog w s.heap x a) (hy : IsRow prog w s.heap y b) (h : Q (decide (x < y)) s) :
    wpAny (model prog w) A (keyLt' κ (.ref a) (.ref b)) Q E s := by
  rcases hκ with ⟨bb, rfl⟩ | rfl | rfl
  · obtain ⟨oa, xs, na, hoa, _, hda, hia⟩ := hx
    obtain ⟨ob, ys, nb, hob, _, hdb, hib⟩ := hy
    refine kat_lt hoa hda hob hdb (lex_rows hia hib (fun k hk1 hk2 he hn => ?_) h 0)
    have e1 : xs.size = x.length := by have := hia.length; simpa using this.symm
    have e2 : ys.size = y.length := by have := hib.length; simpa using this.symm
    rw [e1, e2]
    apply decide_eq_decide.mpr
    have sx := List.take_append_drop k x
    have sy := List.take_append_drop k y
    have app : ∀ (p u v : List Int), (p ++ u < p ++ v) ↔ u < v := by
      intro p u v
      induction p with
      | nil => exact Iff.rfl
      | cons i p ih =>
        rw [List.cons_append, List.cons_append, List.cons_lt_cons_iff, ih]
        exact ⟨fun h => h.elim (fun h => absurd h (Int.lt_irrefl i)) (·.2), fun h => .inr ⟨rfl, h⟩⟩
    rw [← sx, ← sy, ← he, app, List.length_append, List.length_append]
    rcases hn with hn | hn
    · rw [hn]
      cases hdy : y.drop k with
      | nil => simp
      | cons j z => simp
    · rw [hn]
      cases hdx : x.drop k with
      | nil => simp
      | cons j z => simp
  · exact oneLt_rows (bb := false) hu hx hy h
  · exact oneLt_rows (bb := true) hu hx hy h

theorem PR.but {P : Value → List Int → Prop} {h h' : Heap} {a : Addr} {xs : Array Value} {n : Nat} (x : PR prog w P h) (ha : h.get? a = some (seqObj "list" xs n)) (k : ∀ b o, b ≠ a → h.get? b = some o → h'.get? b = some o) : PR prog w P h' := fun v r hv => by
  obtain ⟨b, e, o, its, m, ho, hc, r⟩ := x v r hv
  refine ⟨b, e, o, its, m, k b o ?_ ho, hc, r⟩
  rintro rfl
  rw [ha] at ho
  cases ho
  exact absurd (show Value.type "list" = Value.type "tuple" from hc) (by decide)
theorem PR.keeps {P : Value → List Int → Prop} {h h' : Heap} (x : PR prog w P h) (k : ∀ b o, h.get? b = some o → h'.get? b = some o) : PR prog w P h' := fun v r hv => by
  obtain ⟨b, e, o, its, m, ho, y⟩ := x v r hv
  exact ⟨b, e, o, its, m, k b o ho, y⟩

abbrev Sorted (rs : List (List Int)) : Prop := rs.Pairwise (· ≤ ·)
theorem pick_rows {P : Value → List Int → Prop} {vs : List Value} {rs : List (List Int)} (hq : F2 P vs rs) {p : Array Nat} (hp : PermN vs.length p) (hs : SortedT rowOrd (fun i => rs.getD i []) p vs.length) :
    F2 P (p.toList.map fun i => vs.getD i Value.none) (p.toList.map fun i => rs.getD i []) ∧ (p.toList.map fun i => rs.getD i []).Perm rs ∧ (p.toList.map fun i => vs.getD i Value.none).Perm vs ∧ Sorted (p.toList.map fun i => rs.getD i []) := by
  have hl := hq.length
  have hpl : p.toList.Perm (List.range vs.length) := by simpa using Array.perm_iff_toList_perm.mp hp
  refine ⟨?_, ?_, ?_, ?_⟩
  · have : ∀ l : List Nat, (∀ i ∈ l, i < vs.length) → F2 P (l.map fun i => vs.getD i Value.none) (l.map fun i => rs.getD i []) := by
      intro l
      induction l with
      | nil => intro _; exact .nil
      | cons i l ih =>
        intro hl'
        have hi := hl' i (.head _)
        obtain ⟨r, hr, hR⟩ := hq.get (i := i) (a := vs[i]) (by simp [hi])
        have e1 : vs.getD i Value.none = vs[i] := by simp [hi]
        have e2 : rs.getD i [] = r := by rw [List.getD_eq_getElem?_getD, hr]; rfl
        rw [List.map_cons, List.map_cons, e1, e2]
        exact .cons hR (ih fun j hj => hl' j (.tail _ hj))
    exact this _ fun i hi => List.mem_range.mp (hpl.mem_iff.mp hi)
  · have e := hpl.map (fun i => rs.getD i ([] : List Int))
    rw [hl] at e
    have e2 : (List.range rs.length).map (fun i => rs.getD i ([] : List Int)) = rs := by
      apply List.ext_getElem
      · simp
      · intro i h1 h2; simp [h2]
    rw [e2] at e
    exact e
  · have e := hpl.map (fun i => vs.getD i Value.none)
    have e2 : (List.range vs.length).map (fun i => vs.getD i Value.none) = vs := by
      apply List.ext_getElem
      · simp
      · intro i h1 h2; simp [h2]
    rw [e2] at e
    exact e
  · rw [Sorted, List.pairwise_map, List.pairwise_iff_getElem]
    intro i j hi hj hij
    have hsz := hp.size
    have h1 := hs i j (Nat.le_of_lt hij) (by simp at hj; omega)
    unfold KeyOrd.kle kp at h1
    have g : ∀ k (hk : k < p.toList.length), p.getD k 0 = p.toList[k] := fun k hk => by
      have hk' : k < p.size := by simpa using hk
      simp [Array.getD, hk']
    rw [g i hi, g j hj] at h1
    exact List.not_lt.mp (by simpa using h1)

/-- a list of rows sorted in place -/
theorem sort_rows {P : Value → List Int → Prop} {a : Addr} {vs : List Value} {rs : List (List Int)} {n : Nat} {PP : PySem.Fin → Shared → Prop} (hu : A.units < cLine) (ho : s.heap.get? a = some (seqObj "list" vs.toArray n)) (hq : F2 P vs rs) (hP : PR prog w P s.heap) (h64 : vs.length < 60)
    (h : ∀ h' us qs c, (∀ b o, b ≠ a → s.heap.get? b = some o → h'.get? b = some o) → h'.get? a = some (seqObj "list" (List.toArray us) c) → F2 P us qs → qs.Perm rs → us.Perm vs → Sorted qs → PP (.done (.ret .none)) { s with heap := h' }) :
    wpAny (model prog w) A (Builtin.«list.sort» ⟨[.ref a], []⟩) PP E s := by
  have ha : a < s.heap.objs.size := Heap.lt_size ho
  have hl := hq.length
  rw [list_sort_plain]
  refine wpAny_bind (listItems_at ho rfl ?_)
  refine wpAny_bind (listUpdate_at ho rfl ?_ (by rw [List.size_toArray, sizeLine_eq]; omega) (Nat.zero_le _))
  obtain ⟨e1, ho1⟩ : ∃ e1, (s.heap.update a (Obj.mapSeq fun _ => (#[] : Array Value))).get? a = some (seqObj "list" #[] e1) := ⟨_, get?_update_seq ho fun _ => #[]⟩
  refine wpAny_bind (seqEpoch_at ho1 rfl ?_)
  refine wpAny_bind (wpAny_newTuple ?_ (by show vs.length ≤ _; rw [sizeLine_eq]; omega))
  refine wpAny_bind (wpAny_newList ?_ (Nat.zero_le _))
  refine wpAny_holding ?_
  generalize hH : ((s.heap.update a (Obj.mapSeq fun _ => (#[] : Array Value))).push (seqObj "tuple" vs.toArray 0)).push (seqObj "list" #[] 0) = H
  have hHa : H.get? a = some (seqObj "list" #[] e1) := by rw [← hH]; exact Heap.get?_push_of_some _ (Heap.get?_push_of_some _ ho1)
  have hHk : ∀ b o, b ≠ a → s.heap.get? b = some o → H.get? b = some o := fun b o hb e => by
    rw [← hH]
    exact Heap.get?_push_of_some _ (Heap.get?_push_of_some _ ((Heap.get?_update_ne _ _ _ _ hb).trans e))
  have hPH : PR prog w P H := hP.but ho hHk
  show wpAny (model prog w) A _ PP E { s with heap := H }
  dsimp only
  -- the end, behind the comparisons
  have fin : ∀ (p : Array Nat), PermN vs.length p → SortedT rowOrd (fun i => rs.getD i []) p vs.length →
      wpAny (model prog w) A (do
        let touched := (← seqEpoch a) != e1
        Builtin.List.listUpdate (.ref a) fun _ => List.toArray (p.toList.map fun i => vs.getD i Value.none)
        if let some e := (none : Option Value) then rule "list.sort.comparison-raised"; throw e
        if touched then rule "list.sort.modified"; raiseError "ValueError" "list modified during sort"
        ret .none) PP E { s with heap := H } := fun p hp hs => by
    obtain ⟨q1, q2, q3, q4⟩ := pick_rows hq hp hs
    have hsz : (List.toArray (p.toList.map fun i => vs.getD i Value.none)).size = vs.length := by rw [List.size_toArray, q3.length_eq]
    refine wpAny_bind (seqEpoch_at hHa rfl ?_)
    refine wpAny_bind (listUpdate_at hHa rfl ?_ (Nat.zero_le _) (by rw [hsz, sizeLine_eq]; omega))
    simp only [bne_self_eq_false, Bool.false_eq_true, if_false]
    refine wpAny_pure (h _ _ _ _ (fun b o hb e => (Heap.get?_update_ne _ _ _ _ hb).trans (hHk b o hb e)) (get?_update_seq hHa fun _ => List.toArray (p.toList.map fun i => vs.getD i Value.none)) q1 q2 q3 q4)
  have hsz : vs.toArray.size = vs.length := by simp
  by_cases h2 : vs.toArray.size < 2
  · rw [if_pos h2, if_pos h2]
    refine wpAny_bind (wpAny_pure ?_)
    rw [StateT.run_pure]
    refine wpAny_bind (wpAny_pure ?_)
    dsimp only
    have e : (arrOf (SortSt.mk' general' (vs.toArray.zip vs.toArray) #[] 7 none)).map (·.2) = List.toArray ((List.range vs.length).toArray.toList.map fun i => vs.getD i Value.none) := by
      apply Array.toList_inj.mp
      show ((vs.toArray.zip vs.toArray).map (·.2)).toList = _
      rw [Array.toList_map, Array.toList_zip, List.map_snd_zip (Nat.le_refl _)]
      apply List.ext_getElem
      · simp
      · intro i h1 h2; simp at h1; simp [h1]
    rw [e]
    exact fin (List.range vs.length).toArray (Array.Perm.refl _) (SortedT.one (by omega))
  · rw [if_neg h2, if_neg h2]
    refine wpAny_bind (kind_rows (s := { s with heap := H }) (fun v hv => ?_) fun κ hκ => ?_)
    · obtain ⟨r, _, hr⟩ := hq.mem hv
      obtain ⟨b, e, hb⟩ := hPH v r hr
      exact ⟨b, r, e, hb⟩
    refine wpAny_bind (wpAny_mono (kat_run (Q := fun st' s' => s' = { s with heap := H } ∧ ∃ p : Array Nat, arrOf st' = p.map (kas_item (vs.toArray.zip vs.toArray)) ∧ failedOf st' = none ∧ PermN vs.length p ∧ SortedT rowOrd (fun i => rs.getD i []) p vs.length)
      (G := fun p s' => s' = { s with heap := H } ∧ PermN vs.length p ∧ SortedT rowOrd (fun i => rs.getD i []) p vs.length) rfl (by omega) (by omega) (fun p st' s' a1 a2 a3 a4 => ⟨a4.1, p, a2, a3, a4.2⟩)
      (kasWp_good (n := vs.length) (lt := ltK rowOrd fun i => rs.getD i []) (fun i j C hi hj hC => ?_) (fun p hp => ⟨rfl, hp⟩) _ (sort_good (O := rowOrd) (key := fun i => rs.getD i []) (by omega) fun p a b => ⟨a, b⟩))) ?_ fun _ _ e => e)
    · obtain ⟨ri, hri, hRi⟩ := hq.get (i := i) (a := vs[i]) (by simp [hi])
      obtain ⟨rj, hrj, hRj⟩ := hq.get (i := j) (a := vs[j]) (by simp [hj])
      obtain ⟨x, ex, hx⟩ := hPH _ _ hRi
      obtain ⟨y, ey, hy⟩ := hPH _ _ hRj
      have e1 : vs.getD i Value.none = .ref x := by rw [← ex]; simp [hi]
      have e2 : vs.getD j Value.none = .ref y := by rw [← ey]; simp [hj]
      show wpAny _ _ (keyLt' κ (vs.getD i Value.none) (vs.getD j Value.none)) _ _ _
      rw [e1, e2]
      refine keyLt_rows (s := { s with heap := H }) hκ hu hx hy ?_
      have f1 : rs.getD i [] = ri := by rw [List.getD_eq_getElem?_getD, hri]; rfl
      have f2 : rs.getD j [] = rj := by rw [List.getD_eq_getElem?_getD, hrj]; rfl
      have : ltK rowOrd (fun i => rs.getD i []) i j = decide (ri < rj) := by
        show decide (rs.getD i [] < rs.getD j []) = _
        rw [f1, f2]
      rw [← this]; exact hC
    · rintro ⟨⟨⟩, st'⟩ s' ⟨rfl, p, har, hf, hp, hs⟩
      dsimp only
      rw [kat_snds rfl har, hf]
      exact fin p hp hs
end
end Mine
end
/-! part SetCol -/
section
open PySem PySem.Calls PyProof.Rows PySem.W
set_option maxRecDepth 100000
namespace Mine
theorem slot_setit_iter : Slot "set_iterator" "__iter__" "set_iterator.__iter__" :=
  .of (owner := "set_iterator") (n := "__iter__") (by rw [typeLookup_type, builtinLookup_eq_fast]; kernel_rfl) (by decide +kernel) (by decide +kernel) (by decide +kernel)
    (by first | exact .inl (by decide +kernel) | exact .inr (by decide +kernel)) (by rw [isSubtype_type]; kernel_rfl)
theorem entry_setit_iter : entryFor table "set_iterator.__iter__" = some Builtin.«dict_keyiterator.__iter__» :=
  entryFor_alias (id' := "dict_keyiterator.__iter__") (by kernel_rfl) rfl (by decide +kernel) (by kernel_rfl)
theorem args_setit_iter (a : Value) : argsOk "set_iterator.__iter__" ⟨[a], []⟩ := by unfold argsOk; kernel_rfl
section
variable {prog : Program} {w : World} {A : Around} {E : Value → Shared → Prop} {s : Shared}

theorem setit_get {I S : Addr} {es : Array (Int × Value)} {ep : Nat} {t : SetTable} {i : Nat} {h : Heap} (x : SetItAt w I S es ep t i h) : ∃ slot : Nat, h.get? I = some (setItObj S slot i es.size ep) ∧ (ledOf w = true → SetTable.below t.place slot = i) := x.1

theorem Walks_set (hh : A.handled = none) (I S : Addr) (hne : S ≠ I) (es : Array (Int × Value)) (ep : Nat) (t : SetTable) :
    Walks prog w A I [I, S] [I] es.size (fun i v => (wordOf w S ep es)[i]?.map (·.2) = some v) (fun i h => SetItAt w I S es ep t i h) where
  sub := fun b hb => by simp at hb; simp [hb]
  frame := fun i h h' st hk => ⟨let ⟨slot, a, b⟩ := st.1; ⟨slot, hk I (by simp) _ a, b⟩, st.2.keep fun o e => hk S (by simp) o e⟩
  item := fun i s Q E hi st hQ => by
    obtain ⟨⟨slot, hI, hb⟩, hS⟩ := st
    obtain ⟨o, ho, hx, hd⟩ := id hS.at_
    have hT : s.TypeIs (.ref I) "set_iterator" := ⟨_, hI, rfl⟩
    unfold pyNext
    refine wpAny_bind (wpAny_attempt (wpAny_callSpecial?_slot (name := Str.ofString "__next__") hT slot_setit_next
      (wpAny_call_entry slot_setit_next hT entry_setit_next ?_ (args_setit_next _))))
    unfold Builtin.«set_iterator.__next__»
    refine wpAny_bind (wpAny_pure ?_)
    refine wpAny_bind (wpAny_fieldsOf hI rfl ?_)
    dsimp only
    unfold setEntries
    refine wpAny_bind (wpAny_bind (wpAny_setState_of ho hd hS.tab.fits (wpAny_pure ?_)))
    dsimp only
    rw [if_neg (by simp)]
    refine wpAny_bind (setNext_item hS hb hi fun v slot' hv hb' => ?_)
    dsimp only
    refine wpAny_bind (wpAny_setField hI rfl (by simp) ?_)
    have hI2 := Heap.get?_update_self (Obj.mapFields (·.setIfInBounds 0 (rawInt slot'))) hI rfl
    refine wpAny_bind (wpAny_setField hI2 rfl (by simp) ?_)
    have hI3 := Heap.get?_update_self (Obj.mapFields (·.setIfInBounds 1 (rawInt (i + 1 : Int)))) hI2 rfl
    have oth : ∀ b o, b ≠ I → s.heap.get? b = some o → ((s.heap.update I (Obj.mapFields (·.setIfInBounds 0 (rawInt slot')))).update I (Obj.mapFields (·.setIfInBounds 1 (rawInt (i + 1 : Int))))).get? b = some o :=
      fun b o hb e => (Heap.get?_update_other _ _ (Ne.symm hb)).trans ((Heap.get?_update_other _ _ (Ne.symm hb)).trans e)
    refine wpAny_pure ⟨v, rfl, wpAny_pure (hQ v _ s.toks hv ⟨⟨slot', hI3.trans ?_, hb'⟩, hS.keep fun o e => oth S o hne e⟩ fun b o hb e => oth b o (fun h => hb (by simp [h])) e)⟩
    simp [setItObj, Obj.mapFields, rawInt]
  done := fun s Q E st hQ => by
    obtain ⟨⟨slot, hI, hb⟩, hS⟩ := st
    obtain ⟨o, ho, hx, hd⟩ := id hS.at_
    have hT : s.TypeIs (.ref I) "set_iterator" := ⟨_, hI, rfl⟩
    unfold pyNext
    refine wpAny_bind (wpAny_attempt (wpAny_callSpecial?_slot (name := Str.ofString "__next__") hT slot_setit_next
      (wpAny_call_entry slot_setit_next hT entry_setit_next ?_ (args_setit_next _))))
    unfold Builtin.«set_iterator.__next__»
    refine wpAny_bind (wpAny_pure ?_)
    refine wpAny_bind (wpAny_fieldsOf hI rfl ?_)
    dsimp only
    unfold setEntries
    refine wpAny_bind (wpAny_bind (wpAny_setState_of ho hd hS.tab.fits (wpAny_pure ?_)))
    dsimp only
    rw [if_neg (by simp)]
    refine wpAny_bind (setNext_done hS hb ?_)
    dsimp only
    refine wpAny_bind (wpAny_setField hI rfl (by simp) ?_)
    show wpAny _ _ (newExc (.type "StopIteration") [] >>= _) _ _ _
    refine wpAny_bind ?_
    simp only [newExc, newTuple]
    refine wpAny_bind (wpAny_newObj_type ?_ (by size_fits))
    refine wpAny_bind (m := firstArgMember _ _) (wpAny_of_eq (a := Value.none) (by first | rfl | (simp only [firstArgMember]; rfl)) ?_)
    refine wpAny_newObj_type ?_ (by size_fits)
    simp only [raiseNew]
    refine wpAny_bind (wpAny_handled ?_)
    rw [show A.in1.handled = none from hh]
    refine wpAny_bind (wpAny_pure (wpAny_throw ?_))
    refine wpAny_bind (wpAny_isInstance (T := "StopIteration") (b := true) ⟨_, Heap.get?_push_size _ rfl, rfl⟩ isSubtype_stop ?_)
    have k := ((Heap.SameBut.update s.heap I (Obj.mapFields (·.setIfInBounds 2 Value.none))).extBut.push ({ cls := .type "tuple", data := .seq #[] } : Obj))
    exact wpAny_pure (hQ _ s.toks fun b o hb e => (((Heap.SameBut.update ..).extBut.push _).push _) b o (fun h => hb (by simp [h])) e)
  self := fun i s Q E st hQ => by
    obtain ⟨⟨slot, hI, hb⟩, hS⟩ := st
    have hT : s.TypeIs (.ref I) "set_iterator" := ⟨_, hI, rfl⟩
    refine wpAny_pyIter_slot hT slot_setit_iter (wpAny_call_entry slot_setit_iter hT entry_setit_iter ?_ (args_setit_iter _))
    show wpAny _ _ (ret (.ref I)) _ _ s
    exact wpAny_pure ⟨_, rfl, "set_iterator", _, hT, slot_setit_next.lookup, hQ⟩

theorem iter_set {S : Addr} {es : Array (Int × Value)} {ep : Nat} {t : SetTable} {Q : Value → Shared → Prop} (hS : SetObj w S es ep t s.heap)
    (hQ : Q (.ref s.heap.objs.size) { s with heap := s.heap.push (setItObj S 0 0 es.size ep) }) : wpAny (model prog w) A (pyIter (.ref S)) Q E s := by
  obtain ⟨o, ho, hx, hd⟩ := id hS.at_
  refine wpAny_pyIter_slot hS.typeIs PySem.F.slot_set_iter (wpAny_call_entry PySem.F.slot_set_iter hS.typeIs entry_set_iter' ?_ (PySem.F.args_set_iter_1 _))
  unfold Builtin.«frozenset.__iter__»
  refine wpAny_bind (wpAny_pure ?_)
  unfold Builtin.Frozenset.sizeOf setEntries
  refine wpAny_bind (wpAny_bind (wpAny_bind (wpAny_setState_of ho hd hS.tab.fits (wpAny_pure (wpAny_pure ?_)))))
  unfold setDrawn setsByText
  refine wpAny_bind (wpAny_bind (wpAny_setState_of ho hd hS.tab.fits ?_))
  dsimp only
  refine wpAny_bind (wpAny_bind (wpAny_askSetting (wpAny_pure (wpAny_pure ?_))))
  refine wpAny_ite_split (fun hab => ?_) (fun _ => ?_)
  · have hab : (!_ && (!t.plain && _)) = true := hab
    rw [hS.tab.plain] at hab
    simp at hab
  refine wpAny_bind (wpAny_pure ?_)
  unfold setEpoch
  refine wpAny_bind (wpAny_bind (wpAny_setState_of ho hd hS.tab.fits (wpAny_pure ?_)))
  exact wpAny_bind (wpAny_newObj_type (wpAny_pure ⟨_, rfl, "set_iterator", _, ⟨_, Heap.get?_push_size _ rfl, rfl⟩, slot_setit_next.lookup, hQ⟩))

theorem hint_set {r : Addr} {Q : Bool → Shared → Prop} (hT : s.TypeIs (.ref r) "set") (h : Q false s) : wpAny (model prog w) A (Builtin.List.listLengthHint (.ref r)) Q E s := by
  unfold Builtin.List.listLengthHint
  refine wpAny_bind (wpAny_specialOf hT PySem.F.slot_set_len.lookup ?_)
  generalize hid : ("set.__len__" : String) = id0
  wp_delta
  rw [show splitId id0 = some ("set", "__len__") from by subst hid; decide +kernel]
  subst hid
  refine wpAny_bind (wpAny_isInstance (T := "set") (b := true) hT (by rw [isSubtype_type]; kernel_rfl) ?_)
  refine wpAny_ite_split (fun hab => absurd hab (by decide)) (fun _ => ?_)
  refine wpAny_ite_split (fun _ => ?_) (fun hab => absurd (by decide +kernel) hab)
  refine wpAny_bind (wpAny_typeOf hT ?_)
  exact wpAny_pure h

theorem set_src {S : Addr} {es : Array (Int × Value)} {ep : Nat} {t : SetTable} : KdlSrc prog w "set" S S es.size (fun i v => (wordOf w S ep es)[i]?.map (·.2) = some v) (fun h => SetObj w S es ep t h) where
  type := fun _ hm => hm.typeIs
  there := fun h hm => ⟨let ⟨_, ho, _⟩ := hm.at_; Heap.lt_size ho, let ⟨_, ho, _⟩ := hm.at_; Heap.lt_size ho⟩
  keep := fun _ _ hm hk => hm.keep fun o e => hk S (.inl rfl) o e
  notList := by decide
  notTuple := by decide
  hint := fun _ _ _ _ hm hq => hint_set hm.typeIs hq
  iter := fun A s hh hm => ⟨_, _, (fun _ _ hq => iter_set hm hq), Walks_set hh _ S (Nat.ne_of_lt (let ⟨_, ho, _⟩ := hm.at_; Heap.lt_size ho)) es ep t,
    ⟨⟨0, Heap.get?_push_size _ rfl, fun _ => below_zero hm.tab.sorted⟩, hm.keep fun o e => Heap.get?_push_of_some _ e⟩⟩

theorem collect_src {T : String} {r d : Addr} {n : Nat} {P : Nat → Value → Prop} {OK : Heap → Prop} {R : List Value → Shared → Prop} (K : KdlSrc prog w T r d n P OK) (hh : A.handled = none) (hok : OK s.heap) (hn : n ≤ sizeLine)
    (h : ∀ (h' : Heap) (tk : Nat) (vs : List Value), (∀ b o, s.heap.get? b = some o → h'.get? b = some o) → vs.length = n → (∀ j v, vs[j]? = some v → P j v) → R vs { s with heap := h', toks := tk }) :
    wpAny (model prog w) A (collect (.ref r)) R E s := by
  have hlt := K.there _ hok
  unfold collect
  refine wpAny_bind (wpAny_runValue (codeAny_builtin entry_proto_collect' ?_))
  rw [Around.under_plainId PySem.F.plain_proto_collect _]
  show wpAny _ A.in1 (newList [] >>= fun l => again (.builtin "list.__iadd__" ⟨[l, .ref r], []⟩)) _ _ s
  refine wpAny_bind (wpAny_newObj_type ?_)
  refine wpAny_pure ⟨plainId_quiet PySem.F.plain_list_iadd _, codeAny_builtin entry_list_iadd' ?_⟩
  rw [Around.under_plainId PySem.F.plain_list_iadd _]
  have hS₁ : (s.heap.push { cls := .type "list", data := .seq ([] : List Value).toArray }).get? s.heap.objs.size = some { cls := .type "list", data := .seq #[] } := Heap.get?_push_size _ rfl
  show wpAny _ A.in1 (Builtin.List.listExtendWith (.ref s.heap.objs.size) (.ref r) (.ref s.heap.objs.size)) _ _ _
  have key := kdl_extend (A := A) (s := { s with heap := s.heap.push { cls := .type "list", data := .seq ([] : List Value).toArray } })
    (R := fun (q : Result) (s' : Shared) => ∃ (h' : Heap) (tk : Nat) (acc' : Array Value) (c' : Nat), q = .ok (.ret (.ref s.heap.objs.size)) ∧ s' = { s with heap := h', toks := tk } ∧
      (∀ b o, s.heap.get? b = some o → h'.get? b = some o) ∧ h'.get? s.heap.objs.size = some { cls := .type "list", dict := none, data := .seq acc' c', slots := #[] } ∧ ItemsOf P acc' n)
    K hh (K.keep _ _ hok fun b _ o e => Heap.get?_push_of_some _ e) s.heap.objs.size (Nat.ne_of_gt hlt.1) (Nat.ne_of_gt hlt.2) (.ref s.heap.objs.size) 0 hS₁
    (fun h' tk acc' c' hk hS' hacc => ⟨h', tk, acc', c', rfl, rfl, fun b o e => hk b o (Nat.ne_of_lt (Heap.lt_size e)) (Heap.get?_push_of_some _ e), hS', hacc⟩) hn
  refine wpAny_mono key (fun fin s' x => ?_) fun e s' x => ?_
  · cases fin with
    | done f =>
      obtain ⟨h', tk, acc', c', e, rfl, hk, hS', hacc⟩ := x
      cases e
      show wpAny _ A (load s.heap.objs.size >>= _) _ _ _
      refine wpAny_bind (wpAny_load hS' ?_)
      refine wpAny_pure ?_
      exact h h' tk acc'.toList hk (by rw [Array.length_toList]; exact hacc.1) fun j v e => hacc.2 j v (by rw [← Array.getElem?_toList]; exact e)
    | again c₁ =>
      refine ⟨x.1, codeAny_mono x.2 fun q s₂ y => ?_⟩
      obtain ⟨h', tk, acc', c', rfl, rfl, hk, hS', hacc⟩ := y
      show wpAny _ A (load s.heap.objs.size >>= _) _ _ _
      refine wpAny_bind (wpAny_load hS' ?_)
      refine wpAny_pure ?_
      exact h h' tk acc'.toList hk (by rw [Array.length_toList]; exact hacc.1) fun j v e => hacc.2 j v (by rw [← Array.getElem?_toList]; exact e)
  · obtain ⟨_, _, _, _, e', _⟩ := x
    cases e'

theorem collect_set {P : Value → List Int → Prop} {S : Addr} {rs : List (List Int)} {R : List Value → Shared → Prop} (hh : A.handled = none) (hS : SetIs prog w P s.heap S rs (ledOf w)) (hn : rs.length < 60)
    (h : ∀ (h' : Heap) (tk : Nat) (vs : List Value) (qs : List (List Int)), (∀ b o, s.heap.get? b = some o → h'.get? b = some o) → F2 P vs qs → qs.Perm rs → R vs { s with heap := h', toks := tk }) :
    wpAny (model prog w) A (collect (.ref S)) R E s := by
  obtain ⟨o, es, ep, t, ho, hx, hd, T, hl, hE, hnd⟩ := hS
  have hlen : es.size = rs.length := by have := hE.length; simpa using this
  refine collect_src (set_src (es := es) (ep := ep) (t := t)) hh ⟨⟨o, ho, hx, hd⟩, T, hl⟩ (by rw [hlen, sizeLine_eq]; omega) fun h' tk vs hk hvl hv => ?_
  obtain ⟨qs, hq, hp⟩ := hE.perm (word_perm w S ep es).symm
  have e : vs = (wordOf w S ep es).toList.map (·.2) := by
    apply List.ext_getElem?
    intro i
    by_cases hi : i < vs.length
    · have h1 := hv i vs[i] (by simp [hi])
      rw [List.getElem?_map]
      simp only [Array.getElem?_toList]
      have h2 : vs[i]? = some vs[i] := by simp [hi]
      exact h2.trans h1.symm
    · have hi' : ¬ i < (wordOf w S ep es).size := by rw [word_size, ← hvl]; exact hi
      rw [List.getElem?_eq_none (by omega), List.getElem?_eq_none (by simp; omega)]
  refine h h' tk vs qs hk ?_ hp.symm
  rw [e]
  exact F2.map_left (hq.imp fun a b x => x.2)

/-- sorted(a set of rows) -/
theorem sorted_src {P : Value → List Int → Prop} {r : Addr} {rs : List (List Int)} {Q : Value → Shared → Prop} (hu : A.units + 10 < cLine) (hn : rs.length < 60) (hP : PR prog w P s.heap)
    (hc : ∀ (R : List Value → Shared → Prop), (∀ (h' : Heap) (tk : Nat) (vs : List Value) (qs : List (List Int)), (∀ b o, s.heap.get? b = some o → h'.get? b = some o) → F2 P vs qs → qs.Perm rs → R vs { s with heap := h', toks := tk }) →
      wpAny (model prog w) A.in1 (collect (.ref r)) R E s)
    (h : ∀ h' tk D us qs c, (∀ b o, s.heap.get? b = some o → h'.get? b = some o) → (∀ b o, s.heap.get? b = some o → b < D) → h'.get? D = some (listOf (List.toArray us) c) → F2 P us qs → qs.Perm rs → Sorted qs → Q (.ref D) { s with heap := h', toks := tk }) :
    wpAny (model prog w) A (call (.builtin "sorted") [.ref r]) Q E s := by
  refine Calls.call_function_entry kind_sorted plain_sorted entry_sorted (args_sorted1 _) ?_
  unfold Builtin.«sorted»
  refine wpAny_bind (m := checkCount "sorted" 1 1 _) (wpAny_pure ?_)
  refine wpAny_bind (hc _ fun h' tk vs qs hk hq hp => ?_)
  have hvl : vs.length = rs.length := hq.length.trans hp.length_eq
  refine wpAny_bind (wpAny_newList ?_ (by rw [hvl, sizeLine_eq]; omega))
  have hoL : (h'.push (seqObj "list" vs.toArray 0)).get? h'.objs.size = some (seqObj "list" vs.toArray 0) := Heap.get?_push_size _ rfl
  refine wpAny_bind (wpAny_holding (wpAny_call_entry slot_list_sort ⟨_, hoL, rfl⟩ entry_list_sort (sort_rows (s := { s with heap := h'.push (seqObj "list" vs.toArray 0), toks := tk }) (by show A.in1.in1.units < cLine; simp; omega) hoL hq ((hP.keeps hk).keeps fun b o e => Heap.get?_push_of_some _ e) (by omega)
    fun h₂ us qs₂ c hk₂ ho₂ hq₂ hp₂ _ hs₂ => ⟨_, rfl, ?_⟩) (args_list_sort _)))
  refine wpAny_pure ⟨_, rfl, h h₂ tk h'.objs.size us qs₂ c (fun b o e => hk₂ b o (Nat.ne_of_lt (Heap.lt_size (hk b o e))) (Heap.get?_push_of_some _ (hk b o e))) (fun b o e => Heap.lt_size (hk b o e)) ho₂ hq₂ (hp₂.trans hp) hs₂⟩
theorem sorted_set {P : Value → List Int → Prop} {r : Addr} {rs : List (List Int)} {Q : Value → Shared → Prop} (hh : A.handled = none) (hu : A.units + 10 < cLine) (hn : rs.length < 60) (hP : PR prog w P s.heap) (hS : SetIs prog w P s.heap r rs (ledOf w))
    (h : ∀ h' tk D us qs c, (∀ b o, s.heap.get? b = some o → h'.get? b = some o) → (∀ b o, s.heap.get? b = some o → b < D) → h'.get? D = some (listOf (List.toArray us) c) → F2 P us qs → qs.Perm rs → Sorted qs → Q (.ref D) { s with heap := h', toks := tk }) :
    wpAny (model prog w) A (call (.builtin "sorted") [.ref r]) Q E s :=
  sorted_src hu hn hP (fun _ k => collect_set (A := A.in1) hh hS hn k) h
theorem sorted_list {P : Value → List Int → Prop} {r : Addr} {items : Array Value} {rs : List (List Int)} {Q : Value → Shared → Prop} (hu : A.units + 10 < cLine) (hn : rs.length < 60) (hP : PR prog w P s.heap) (hl : s.heap.IsList r items) (hq : F2 P items.toList rs)
    (h : ∀ h' tk D us qs c, (∀ b o, s.heap.get? b = some o → h'.get? b = some o) → (∀ b o, s.heap.get? b = some o → b < D) → h'.get? D = some (listOf (List.toArray us) c) → F2 P us qs → qs.Perm rs → Sorted qs → Q (.ref D) { s with heap := h', toks := tk }) :
    wpAny (model prog w) A (call (.builtin "sorted") [.ref r]) Q E s :=
  sorted_src hu hn hP (fun R k => by
    have hl' : s.heap.IsList r items.toList.toArray := by simpa using hl
    refine collect_list hl' (k _ s.toks _ _ (fun b o e => ?_) hq (List.Perm.refl _)) (by rw [hq.length, sizeLine_eq]; omega)
    exact (Heap.get?_update_other _ _ (fun z : s.heap.objs.size = b => absurd (Heap.lt_size e) (by rw [z]; exact Nat.lt_irrefl _))).trans (Heap.get?_push_of_some _ e)) h
end
end Mine
end
/-! part LoopR -/
section
open PySem PySem.Calls PyProof.Rows PyProof.V PySem.Spec PySem.W
set_option maxRecDepth 100000
namespace Mine
section
variable {prog : Program} {w : World} {A : Around} {E : Value → Shared → Prop} {s : Shared} {env : Env} {h₀ : Heap} {x : Str} {body : List Stmt} {Q : Flow → Shared → Prop}

/-- the end of a turn: the state is c', the rest of the ledger T' -/
def RowsPost {σ : Type} (h₀ : Heap) (L : Addr) (Led : σ → List (Addr × Obj)) (adr : List Addr) (Inv : σ → (Str → Option Value) → List (Addr × Obj) → Prop) (T₁ : List (Addr × Obj)) (s₁ : Shared) (Q : Flow → Shared → Prop) (f : Flow) (s₂ : Shared) : Prop :=
  match f with
  | .ret v => Q (.ret v) s₂
  | .brk => Q .next s₂
  | _ => ∃ h' tk m' c' T', s₂ = { s₁ with heap := h', toks := tk } ∧ Fr h₀ L h' m' ∧ News h₀ L h' (Led c' ++ T') ∧ (∀ p ∈ T₁, p ∈ T') ∧ OwnOff T' adr ∧ Inv c' m' T'
def offI (I : Addr) (T : List (Addr × Obj)) : List (Addr × Obj) := T.filter fun p => p.1 != I
theorem mem_offI {I : Addr} {T : List (Addr × Obj)} {p : Addr × Obj} : p ∈ offI I T ↔ p ∈ T ∧ p.1 ≠ I := by
  unfold offI; rw [List.mem_filter]; simp

theorem iter_rows {σ : Type} (Led : σ → List (Addr × Obj)) (adr : List Addr) (hadr : ∀ c, (Led c).map (·.1) = adr) (Inv : Nat → σ → (Str → Option Value) → List (Addr × Obj) → Prop)
    {l : Addr} {items : Array Value} {m₀ : Str → Option Value} {c₀ : σ} {T₀ : List (Addr × Obj)}
    (hh : A.handled = none) (hl : s.heap.IsList l items) (hlL : l ≠ env.locals) (hla : l ∉ adr) (F : Fr h₀ env.locals s.heap m₀) (N : News h₀ env.locals s.heap (Led c₀ ++ T₀)) (hT₀ : OwnOff T₀ adr)
    (hj : Inv 0 c₀ m₀ T₀)
    (grow : ∀ i c m T T', Inv i c m T → (∀ p ∈ T, p ∈ T') → Inv i c m T')
    (stab : ∀ i c m T I o h, News h₀ env.locals h T → (I, o) ∈ T → o.cls = .type "list_iterator" → Inv i c m T → Inv i c m (offI I T))
    (turn : ∀ i v c m₁ T h tk, items[i]? = some v → (∀ p ∈ T₀, p ∈ T) → OwnOff T adr → Inv i c m₁ T → Fr h₀ env.locals h (fun y => if y = x then some v else m₁ y) → News h₀ env.locals h (Led c ++ T) →
      wpAny (model prog w) A (execs body env) (RowsPost h₀ env.locals Led adr (Inv (i + 1)) T { s with heap := h, toks := tk } Q) E { s with heap := h, toks := tk })
    (done : ∀ c m₁ T h tk, (∀ p ∈ T₀, p ∈ T) → OwnOff T adr → Inv items.size c m₁ T → Fr h₀ env.locals h m₁ → News h₀ env.locals h (Led c ++ T) → Q .next { s with heap := h, toks := tk }) :
    wpAny (model prog w) A (pyIter (.ref l)) (fun it s₂ => LoopAtV prog w A h₀ env x body Q E it s₂) E s := by
  obtain ⟨ol, hol, hcl, nl, hdl⟩ := id hl
  have hlt : l < s.heap.objs.size := Heap.lt_size hol
  have hne : l ≠ s.heap.objs.size := Nat.ne_of_lt hlt
  refine wpAny_pyIter_list hl ?_
  have W := Walks.list (prog := prog) (w := w) hh s.heap.objs.size l hne items
  have hadrI : s.heap.objs.size ∉ adr := fun hm => by
    rw [← hadr c₀] at hm
    obtain ⟨p, hp, e⟩ := List.mem_map.mp hm
    exact absurd (Heap.lt_size (N p (List.mem_append_left _ hp)).1) (by rw [e]; exact Nat.lt_irrefl _)
  let J' : Nat → (Str → Option Value) → List (Addr × Obj) → Prop := fun i m₁ news₁ => ∃ c T, news₁ = Led c ++ T ∧ (∀ p ∈ T₀, p ∈ T) ∧ OwnOff T adr ∧ Inv i c m₁ T
  refine ⟨_, _, _, items.size, _, _, m₀, _, J', rfl, W, ?_, ?_, ?_, ⟨⟨_, Heap.get?_push_size _ rfl, rfl, rfl⟩, hl.at fun o e => Heap.get?_push_of_some _ e⟩, F.push _, (fun p hp => ⟨Heap.get?_push_of_some _ (N p hp).1, (N p hp).2⟩), ⟨c₀, T₀, rfl, fun _ h => h, hT₀, hj⟩, ?_, ?_⟩
  · intro hm
    rcases List.mem_cons.mp hm with e | hm
    · exact absurd F.ns.lt (e ▸ Nat.lt_irrefl _)
    · exact hlL (List.mem_singleton.mp hm).symm
  · intro b hb
    rw [List.mem_singleton.mp hb]
    exact next_is_new F
  · intro p hp hI
    exact absurd (Heap.lt_size (N p hp).1) ((List.mem_singleton.mp hI) ▸ Nat.lt_irrefl _)
  · rintro i v m₁ news₁ s₁ own ⟨hh', tk', rfl⟩ hin hP ⟨c, T, rfl, hsub, hoff, hI⟩ hnw hown hownh hall hst F₁ N₁
    obtain ⟨oI, hoI, hcI, hdI⟩ := hst.1
    have hIown : (s.heap.objs.size, oI) ∈ own := hall _ List.mem_cons_self (next_is_new F) oI hoI
    have hown' : OwnOff own adr := fun p hp b hb e => by
      rcases List.mem_cons.mp (hown p hp) with h1 | h1
      · exact hadrI (by rw [← h1, e]; exact hb)
      · have h2 := List.mem_singleton.mp h1
        exact hla (by rw [← h2, e]; exact hb)
    have hoffT : OwnOff (T ++ own) adr := fun p hp => (List.mem_append.mp hp).elim (hoff p) (hown' p)
    have N₂ : News h₀ env.locals hh' (Led c ++ (T ++ own)) := fun p hp => N₁ p (by
      rcases List.mem_append.mp hp with h | h
      · exact List.mem_append_right _ (List.mem_append_left _ h)
      · rcases List.mem_append.mp h with h | h
        · exact List.mem_append_right _ (List.mem_append_right _ h)
        · exact List.mem_append_left _ h)
    refine wpAny_mono (turn i v c m₁ (T ++ own) hh' tk' hP (fun p hp => List.mem_append_left _ (hsub p hp)) hoffT (grow _ _ _ _ _ hI fun p hp => List.mem_append_left _ hp) F₁ N₂) (fun f s₂ p => ?_) fun _ _ e => e
    have fin : (∃ h' tk m' c' T', s₂ = { s with heap := h', toks := tk } ∧ Fr h₀ env.locals h' m' ∧ News h₀ env.locals h' (Led c' ++ T') ∧ (∀ p ∈ T ++ own, p ∈ T') ∧ OwnOff T' adr ∧ Inv (i + 1) c' m' T') →
        LoopStepU h₀ env.locals [s.heap.objs.size] own (J' (i + 1)) { s with heap := hh', toks := tk' } .next s₂ := by
      rintro ⟨h', tk, m', c', T', e, F', N', hsub', hoff', hI'⟩
      refine ⟨rfl, h', tk, m', Led c' ++ offI s.heap.objs.size T', e, F', fun p hp => N' p ?_, fun p hp hI => ?_, c', _, rfl, fun p hp => ?_, fun p hp => hoff' p (mem_offI.mp hp).1, ?_⟩
      · rcases List.mem_append.mp hp with h | h
        · exact List.mem_append_right _ (hsub' p (List.mem_append_right _ h))
        · rcases List.mem_append.mp h with h | h
          · exact List.mem_append_left _ h
          · exact List.mem_append_right _ (mem_offI.mp h).1
      · have hI := List.mem_singleton.mp hI
        rcases List.mem_append.mp hp with h | h
        · exact hadrI (by rw [← hI, ← hadr c']; exact List.mem_map_of_mem h)
        · exact (mem_offI.mp h).2 hI
      · refine mem_offI.mpr ⟨hsub' p (List.mem_append_left _ (hsub p hp)), fun e => ?_⟩
        exact absurd (Heap.lt_size (N p (List.mem_append_right _ hp)).1) (by rw [e]; exact Nat.lt_irrefl _)
      · exact stab _ _ _ _ _ oI h' (fun p hp => N' p (List.mem_append_right _ hp)) (hsub' _ (List.mem_append_right _ hIown)) hcI hI'
    cases f with
    | ret v => exact .ret p
    | brk => exact .brk p
    | next => exact .next (fin p)
    | cont => exact .cont (fin p)
  · rintro h' tk m' news' F' N' _ ⟨c, T, rfl, hsub, hoff, hI⟩
    exact done c m' T h' tk hsub hoff hI F' N'

/-- the end of a turn, the frame by what it may store -/
def RowsEnd {σ : Type} (h₀ : Heap) (L : Addr) (x : Str) (stored : List Str) (m₀ : Str → Option Value) (Led : σ → List (Addr × Obj)) (adr : List Addr) (Inv : σ → List (Addr × Obj) → Prop) (T₁ : List (Addr × Obj)) (s₁ : Shared) (Q : Flow → Shared → Prop) (f : Flow) (s₂ : Shared) : Prop :=
  match f with
  | .ret v => Q (.ret v) s₂
  | .brk => Q .next s₂
  | _ => ∃ h' tk m' c' T', s₂ = { s₁ with heap := h', toks := tk } ∧ Fr h₀ L h' m' ∧ News h₀ L h' (Led c' ++ T') ∧ (∀ p ∈ T₁, p ∈ T') ∧ OwnOff T' adr ∧ (∀ z, z ≠ x → stored.contains z = false → m' z = m₀ z) ∧ Inv c' T'
theorem iter_rowsM {σ : Type} (Led : σ → List (Addr × Obj)) (adr : List Addr) (hadr : ∀ c, (Led c).map (·.1) = adr) (stored : List Str) (Inv : Nat → σ → List (Addr × Obj) → Prop)
    {l : Addr} {items : Array Value} {m₀ : Str → Option Value} (c₀ : σ) (T₀ : List (Addr × Obj))
    (hh : A.handled = none) (hl : s.heap.IsList l items) (hlL : l ≠ env.locals) (hla : l ∉ adr) (F : Fr h₀ env.locals s.heap m₀) (N : News h₀ env.locals s.heap (Led c₀ ++ T₀)) (hT₀ : OwnOff T₀ adr)
    (hj : Inv 0 c₀ T₀)
    (grow : ∀ i c T T', Inv i c T → (∀ p ∈ T, p ∈ T') → Inv i c T')
    (stab : ∀ i c T I o h, News h₀ env.locals h T → (I, o) ∈ T → o.cls = .type "list_iterator" → Inv i c T → Inv i c (offI I T))
    (turn : ∀ i v c (u : Str → Option Value) T h tk, items[i]? = some v → (∀ p ∈ T₀, p ∈ T) → OwnOff T adr → Inv i c T → Fr h₀ env.locals h (fun z => if z = x then some v else if stored.contains z then u z else m₀ z) → News h₀ env.locals h (Led c ++ T) →
      wpAny (model prog w) A (execs body env) (RowsEnd h₀ env.locals x stored m₀ Led adr (Inv (i + 1)) T { s with heap := h, toks := tk } Q) E { s with heap := h, toks := tk })
    (done : ∀ c (u : Str → Option Value) T h tk, (∀ p ∈ T₀, p ∈ T) → OwnOff T adr → Inv items.size c T → Fr h₀ env.locals h (fun z => if z = x then u z else if stored.contains z then u z else m₀ z) → News h₀ env.locals h (Led c ++ T) → Q .next { s with heap := h, toks := tk }) :
    wpAny (model prog w) A (pyIter (.ref l)) (fun it s₂ => LoopAtV prog w A h₀ env x body Q E it s₂) E s := by
  refine iter_rows Led adr hadr (fun i c m T => (∀ z, z ≠ x → stored.contains z = false → m z = m₀ z) ∧ Inv i c T) hh hl hlL hla F N hT₀ ⟨fun _ _ _ => rfl, hj⟩ (fun i c m T T' h k => ⟨h.1, grow i c T T' h.2 k⟩) (fun i c m T I o h N hI hc k => ⟨k.1, stab i c T I o h N hI hc k.2⟩) ?_ ?_
  · rintro i v c m₁ T h tk hv hs ho ⟨hm, hI⟩ F₁ N₁
    have e : (fun y => if y = x then some v else m₁ y) = fun z => if z = x then some v else if stored.contains z then m₁ z else m₀ z := by
      funext z
      by_cases h1 : z = x
      · simp [h1]
      · simp only [if_neg h1]
        cases h2 : stored.contains z with
        | true => simp
        | false => simpa using hm z h1 h2
    rw [e] at F₁
    refine wpAny_mono (turn i v c m₁ T h tk hv hs ho hI F₁ N₁) (fun f s₂ p => ?_) fun _ _ e => e
    cases f with
    | ret v => exact p
    | brk => exact p
    | next => obtain ⟨h', tk, m', c', T', e, a1, a2, a3, a4, a5, a6⟩ := p; exact ⟨h', tk, m', c', T', e, a1, a2, a3, a4, a5, a6⟩
    | cont => obtain ⟨h', tk, m', c', T', e, a1, a2, a3, a4, a5, a6⟩ := p; exact ⟨h', tk, m', c', T', e, a1, a2, a3, a4, a5, a6⟩
  · rintro c m₁ T h tk hs ho ⟨hm, hI⟩ F₁ N₁
    refine done c m₁ T h tk hs ho hI ?_ N₁
    have e : m₁ = fun z => if z = x then m₁ z else if stored.contains z then m₁ z else m₀ z := by
      funext z
      by_cases h1 : z = x
      · simp [h1]
      · simp only [if_neg h1]
        cases h2 : stored.contains z with
        | true => simp
        | false => simpa using hm z h1 h2
    rw [← e]; exact F₁
theorem RowsEnd.intro {σ : Type} {L : Addr} {stored : List Str} {m₀ m' : Str → Option Value} {Led : σ → List (Addr × Obj)} {adr : List Addr} {Inv : σ → List (Addr × Obj) → Prop} {T₁ : List (Addr × Obj)} {s₁ : Shared} {h' : Heap} {tk : Nat}
    (c' : σ) (T' : List (Addr × Obj)) (F : Fr h₀ L h' m') (N : News h₀ L h' (Led c' ++ T')) (hs : ∀ p ∈ T₁, p ∈ T') (ho : OwnOff T' adr) (hm : ∀ z, z ≠ x → stored.contains z = false → m' z = m₀ z) (hI : Inv c' T') :
    RowsEnd h₀ L x stored m₀ Led adr Inv T₁ s₁ Q .next { s₁ with heap := h', toks := tk } := ⟨h', tk, m', c', T', rfl, F, N, hs, ho, hm, hI⟩
end


section
variable {prog : Program} {w : World} {A : Around} {E : Value → Shared → Prop} {s : Shared} {env : Env} {h₀ : Heap} {x : Str} {body : List Stmt} {Q : Flow → Shared → Prop}
/-- a loop over a list of the ledger that fills another list -/
theorem iter_fill {D B : Addr} {us : List Value} {c c0 : Nat} {news : List (Addr × Obj)} {m₀ : Str → Option Value} (Inv : Nat → List Value → List (Addr × Obj) → Prop)
    (hh : A.handled = none) (F : Fr h₀ env.locals s.heap m₀) (N : News h₀ env.locals s.heap ((D, listOf (List.toArray us) c) :: (B, listOf #[] c0) :: news)) (hDB : D ≠ B) (hoff : ∀ q ∈ news, q.1 ≠ B) (hj : Inv 0 [] ((D, listOf (List.toArray us) c) :: news))
    (grow : ∀ i c T T', Inv i c T → (∀ p ∈ T, p ∈ T') → Inv i c T')
    (stab : ∀ i c T I o h, News h₀ env.locals h T → (I, o) ∈ T → o.cls = .type "list_iterator" → Inv i c T → Inv i c (offI I T))
    (turn : ∀ i v vs n T h tk, us[i]? = some v → (∀ p ∈ (D, listOf (List.toArray us) c) :: news, p ∈ T) → OwnOff T [B] → Inv i vs T → Fr h₀ env.locals h (fun z => if z = x then some v else m₀ z) → News h₀ env.locals h ((B, listOf (List.toArray vs) n) :: T) →
      wpAny (model prog w) A (execs body env) (RowsEnd h₀ env.locals x [] m₀ (fun c : List Value × Nat => [(B, listOf (List.toArray c.1) c.2)]) [B] (fun c => Inv (i + 1) c.1) T { s with heap := h, toks := tk } Q) E { s with heap := h, toks := tk })
    (done : ∀ vs n (u : Option Value) T h tk, (∀ p ∈ (D, listOf (List.toArray us) c) :: news, p ∈ T) → OwnOff T [B] → Inv us.length vs T → Fr h₀ env.locals h (fun z => if z = x then u else m₀ z) → News h₀ env.locals h ((B, listOf (List.toArray vs) n) :: T) → Q .next { s with heap := h, toks := tk }) :
    wpAny (model prog w) A (pyIter (.ref D)) (fun it s₂ => LoopAtV prog w A h₀ env x body Q E it s₂) E s := by
  refine iter_rowsM (σ := List Value × Nat) (fun c => [(B, listOf (List.toArray c.1) c.2)]) [B] (fun _ => rfl) [] (fun i c T => Inv i c.1 T) ([], c0) ((D, listOf (List.toArray us) c) :: news) (items := List.toArray us) hh ⟨_, (N _ List.mem_cons_self).1, rfl, c, rfl⟩ (N _ List.mem_cons_self).2.1 (by simpa using hDB) F
    (fun p hp => N p ?_) ?_ hj (fun i c T T' => grow i c.1 T T') (fun i c T => stab i c.1 T) ?_ ?_
  · rcases List.mem_cons.mp hp with rfl | hp
    · exact .tail _ (.head _)
    · rcases List.mem_cons.mp hp with rfl | hp
      · exact .head _
      · exact .tail _ (.tail _ hp)
  · intro p hp b hb
    have hb := List.mem_singleton.mp hb
    subst hb
    rcases List.mem_cons.mp hp with rfl | hp
    · exact hDB
    · exact hoff p hp
  · intro i v c u T h tk hv hs ho hI F₁ N₁
    simp only [List.contains_nil, Bool.false_eq_true, if_false] at F₁
    exact turn i v c.1 c.2 T h tk (by simpa using hv) hs ho hI F₁ N₁
  · intro c u T h tk hs ho hI F₁ N₁
    simp only [List.contains_nil, Bool.false_eq_true, if_false] at F₁
    refine done c.1 c.2 (u x) T h tk hs ho (by simpa using hI) ?_ N₁
    have e : (fun z => if z = x then u x else m₀ z) = fun z => if z = x then u z else m₀ z := by
      funext z
      by_cases h1 : z = x
      · simp [h1]
      · simp [h1]
    rw [e]; exact F₁
end

theorem sub1 {α : Type} {a : α} {T : List α} : ∀ p ∈ T, p ∈ a :: T := fun _ h => .tail _ h
theorem sub2 {α : Type} {a b : α} {T : List α} : ∀ p ∈ T, p ∈ a :: b :: T := fun _ h => .tail _ (.tail _ h)
theorem sub3 {α : Type} {a b c : α} {T : List α} : ∀ p ∈ T, p ∈ a :: b :: c :: T := fun _ h => .tail _ (.tail _ (.tail _ h))
theorem sub4 {α : Type} {a b c d : α} {T : List α} : ∀ p ∈ T, p ∈ a :: b :: c :: d :: T := fun _ h => .tail _ (.tail _ (.tail _ (.tail _ h)))
theorem sub5 {α : Type} {a b c d e : α} {T : List α} : ∀ p ∈ T, p ∈ a :: b :: c :: d :: e :: T := fun p h => sub4 p (.tail _ h)
theorem sub6 {α : Type} {a b c d e f : α} {T : List α} : ∀ p ∈ T, p ∈ a :: b :: c :: d :: e :: f :: T := fun p h => sub5 p (.tail _ h)
theorem sub7 {α : Type} {a b c d e f g : α} {T : List α} : ∀ p ∈ T, p ∈ a :: b :: c :: d :: e :: f :: g :: T := fun p h => sub6 p (.tail _ h)
theorem sub8 {α : Type} {a b c d e f g i : α} {T : List α} : ∀ p ∈ T, p ∈ a :: b :: c :: d :: e :: f :: g :: i :: T := fun p h => sub7 p (.tail _ h)
theorem cut2 {h₀ h : Heap} {L : Addr} {a b : Addr × Obj} {T : List (Addr × Obj)} (N : News h₀ L h (a :: b :: T)) : News h₀ L h (a :: T) := fun p hp => N p ((List.mem_cons.mp hp).elim (fun e => e ▸ .head _) (sub2 p))
theorem cut1 {h₀ h : Heap} {L : Addr} {a : Addr × Obj} {T : List (Addr × Obj)} (N : News h₀ L h (a :: T)) : News h₀ L h T := fun p hp => N p (.tail _ hp)
/-! rows in a ledger -/
def RowIn (T : List (Addr × Obj)) (v : Value) (r : List Int) : Prop := ∃ a vs n, v = .ref a ∧ (a, ({ cls := .type "tuple", data := .seq (List.toArray vs) n } : Obj)) ∈ T ∧ IntsAre vs r
theorem RowIn.mono {T T' : List (Addr × Obj)} (h : ∀ p ∈ T, p ∈ T') {v : Value} {r : List Int} (x : RowIn T v r) : RowIn T' v r := let ⟨a, vs, n, e, hm, hi⟩ := x; ⟨a, vs, n, e, h _ hm, hi⟩
theorem F2.rows {T T' : List (Addr × Obj)} (h : ∀ p ∈ T, p ∈ T') {vs : List Value} {rs : List (List Int)} (x : F2 (RowIn T) vs rs) : F2 (RowIn T') vs rs := x.imp fun _ _ y => y.mono h
theorem RowIn.offI {h₀ h : Heap} {L : Addr} {T : List (Addr × Obj)} (N : News h₀ L h T) {I : Addr} {o : Obj} (hI : (I, o) ∈ T) (hc : o.cls = .type "list_iterator") {v : Value} {r : List Int} (x : RowIn T v r) : RowIn (offI I T) v r := by
  obtain ⟨a, vs, n, e, hm, hi⟩ := x
  refine ⟨a, vs, n, e, mem_offI.mpr ⟨hm, fun ea => ?_⟩, hi⟩
  have h1 := (N _ hm).1
  have h2 := (N _ hI).1
  dsimp only at h1 h2 ea
  subst ea
  rw [h1] at h2
  cases h2
  exact absurd (show Value.type "tuple" = Value.type "list_iterator" from hc) (by decide)
theorem RowIn.skip {p : Addr × Obj} {T : List (Addr × Obj)} {v : Value} {r : List Int} (hc : p.2.cls ≠ .type "tuple") (x : RowIn (p :: T) v r) : RowIn T v r := by
  obtain ⟨a, vs, n, e, hm, hi⟩ := x
  rcases List.mem_cons.mp hm with h | h
  · exact absurd (by rw [← h]) hc
  · exact ⟨a, vs, n, e, h, hi⟩
theorem intsRow {prog : Program} {w : World} {vs : List Value} {r : List Int} (h : IntsAre vs r) : PySem.ItemsAre (intKind prog w) r vs := by
  induction h with
  | nil => exact .nil
  | cons n t _ ih => exact .cons (intKind_is _ _ _ _) ih
theorem RowIn.row {prog : Program} {w : World} {h₀ h : Heap} {L : Addr} {T : List (Addr × Obj)} (N : News h₀ L h T) : PR prog w (RowIn T) h := fun v r x => by
  obtain ⟨a, vs, n, e, hm, hi⟩ := x
  exact ⟨a, e, _, _, n, (N _ hm).1, rfl, rfl, by simpa using intsRow hi⟩
end Mine
end
/-! part Base -/
section
open PySem PySem.W PyProof.Rows PySem.Spec PySem.Calls
set_option maxRecDepth 100000
set_option maxHeartbeats 8000000
namespace Mine
abbrev prg : Program := PySem.Challenge.rw_ad6014_01.row.prog
section
variable {prog : Program} {w : World} {A : Around} {E : Value → Shared → Prop} {s : Shared} {h₀ : Heap} {L : Addr} {m : Str → Option Value} {news : List (Addr × Obj)}

theorem fresh_ne {h : Heap} (F : Fr h₀ L h m) {D : Addr} (hD : ∀ b o, h.get? b = some o → b < D) : D ≠ L ∧ h₀.get? D = none := by
  obtain ⟨oL, _, _, hL, _⟩ := F.ns
  refine ⟨Nat.ne_of_gt (hD _ _ hL), ?_⟩
  cases e : h₀.get? D with
  | none => rfl
  | some o => exact absurd (hD _ _ (F.keep D o e)) (Nat.lt_irrefl _)
theorem News.fresh {h h' : Heap} (F : Fr h₀ L h m) (N : News h₀ L h news) (hk : ∀ b o, h.get? b = some o → h'.get? b = some o) {D : Addr} {o : Obj} (hD : ∀ b o, h.get? b = some o → b < D) (ho : h'.get? D = some o) :
    News h₀ L h' ((D, o) :: news) := fun q hq => by
  rcases List.mem_cons.mp hq with rfl | hq
  · exact ⟨ho, fresh_ne F hD⟩
  · exact ⟨hk _ _ (N q hq).1, (N q hq).2⟩

/-- a set of rows in a ledger -/
def SetRows (prog : Program) (w : World) (P : Value → List Int → Prop) (o : Obj) (rs : List (List Int)) : Prop :=
  ∃ es ep t, o.ExactSet ∧ o.data = .set es ep t ∧ Tab es.toList t ∧ t.led = ledOf w ∧ Ents prog w P es.toList rs ∧ rs.Nodup
theorem SetRows.is {P : Value → List Int → Prop} {o : Obj} {rs : List (List Int)} {h : Heap} {S : Addr} (x : SetRows prog w P o rs) (e : h.get? S = some o) : SetIs prog w P h S rs (ledOf w) := by
  obtain ⟨es, ep, t, h1, h2, h3, h4, h5, h6⟩ := x
  exact ⟨o, es, ep, t, e, h1, h2, h3, h4, h5, h6⟩
theorem SetRows.of {P : Value → List Int → Prop} {rs : List (List Int)} {h : Heap} {S : Addr} (x : SetIs prog w P h S rs (ledOf w)) : ∃ o, h.get? S = some o ∧ SetRows prog w P o rs := by
  obtain ⟨o, es, ep, t, e, h1, h2, h3, h4, h5, h6⟩ := x
  exact ⟨o, e, es, ep, t, h1, h2, h3, h4, h5, h6⟩

theorem PR.sub {R : List (Addr × Obj)} {h : Heap} (N : News h₀ L h news) (hR : ∀ p ∈ R, p ∈ news) : PR prog w (RowIn R) h := fun v r x => RowIn.row N v r (x.mono hR)
theorem set_N {R : List (Addr × Obj)} {l : Addr} {items : Array Value} {c : Nat} {qs : List (List Int)} {Q : Value → Shared → Prop} (hR0 : ∀ p ∈ R, p ∈ news) (hh : A.handled = none) (hu : A.units + 10 < cLine) (F : Fr h₀ L s.heap m) (N : News h₀ L s.heap news)
    (hl : (l, listOf items c) ∈ news) (hq : F2 (RowIn R) items.toList qs) (hn : qs.length < 60)
    (h : ∀ S o h' tk rs, Fr h₀ L h' m → News h₀ L h' ((S, o) :: news) → (∀ q ∈ news, q.1 < S) → SetRows prog w (RowIn R) o rs → (∀ r, r ∈ rs ↔ r ∈ qs) → rs.length ≤ qs.length → rs.Nodup → Q (.ref S) { s with heap := h', toks := tk }) :
    wpAny (model prog w) A (call (.type "set") [.ref l]) Q E s := by
  refine set_of_list hh hu ⟨_, (N _ hl).1, rfl, c, rfl⟩ hq hn (PR.sub N hR0) fun h' tk rs hk hS hm hlen => ?_
  obtain ⟨o, ho, hR⟩ := SetRows.of hS
  obtain ⟨_, _, _, _, _, _, _, _, hnd⟩ := id hR
  exact h _ o h' tk rs (F.keeps hk) (news_pushed F N hk ho rfl) (fun q hq => Heap.lt_size (N q hq).1) hR hm hlen hnd
theorem sorted_setN {S : Addr} {o : Obj} {P : Value → List Int → Prop} {rs : List (List Int)} {Q : Value → Shared → Prop} (hh : A.handled = none) (hu : A.units + 10 < cLine) (F : Fr h₀ L s.heap m) (N : News h₀ L s.heap news)
    (hS : (S, o) ∈ news) (hR : SetRows prog w P o rs) (hP : ∀ v r, P v r → RowIn news v r) (hn : rs.length < 60)
    (h : ∀ D us qs c h' tk, Fr h₀ L h' m → News h₀ L h' ((D, listOf (List.toArray us) c) :: news) → (∀ q ∈ news, q.1 < D) → F2 P us qs → qs.Perm rs → Sorted qs → Q (.ref D) { s with heap := h', toks := tk }) :
    wpAny (model prog w) A (call (.builtin "sorted") [.ref S]) Q E s := by
  have hPR : PR prog w P s.heap := fun v r x => RowIn.row N v r (hP v r x)
  refine sorted_set hh hu hn hPR (hR.is (N _ hS).1) fun h' tk D us qs c hk hD ho hq hp hs => ?_
  exact h D us qs c h' tk (F.keeps hk) (News.fresh F N hk hD ho) (fun q hq => hD _ _ (N q hq).1) hq hp hs
theorem sorted_listN {R : List (Addr × Obj)} {l : Addr} {items : Array Value} {c : Nat} {rs : List (List Int)} {Q : Value → Shared → Prop} (hR0 : ∀ p ∈ R, p ∈ news) (hu : A.units + 10 < cLine) (F : Fr h₀ L s.heap m) (N : News h₀ L s.heap news)
    (hl : (l, listOf items c) ∈ news) (hq : F2 (RowIn R) items.toList rs) (hn : rs.length < 60)
    (h : ∀ D us qs c h' tk, Fr h₀ L h' m → News h₀ L h' ((D, listOf (List.toArray us) c) :: news) → (∀ q ∈ news, q.1 < D) → F2 (RowIn R) us qs → qs.Perm rs → Sorted qs → Q (.ref D) { s with heap := h', toks := tk }) :
    wpAny (model prog w) A (call (.builtin "sorted") [.ref l]) Q E s := by
  refine sorted_list hu hn (PR.sub N hR0) ⟨_, (N _ hl).1, rfl, c, rfl⟩ hq fun h' tk D us qs c hk hD ho hq hp hs => ?_
  exact h D us qs c h' tk (F.keeps hk) (News.fresh F N hk hD ho) (fun q hq => hD _ _ (N q hq).1) hq hp hs

def rowDat (r : List Int) : Dat := .tuple (r.map Dat.int)
theorem intDat_inj : ∀ r q : List Int, r.map Dat.int = q.map Dat.int → r = q
  | [], [], _ => rfl
  | [], _ :: _, h => by simp at h
  | _ :: _, [], h => by simp at h
  | x :: r, y :: q, h => by
    simp only [List.map_cons, List.cons.injEq, Dat.int.injEq] at h
    rw [h.1, intDat_inj r q h.2]
theorem rowDat_inj {r q : List Int} : rowDat r = rowDat q ↔ r = q := ⟨fun h => intDat_inj r q (by unfold rowDat at h; injection h), fun h => by rw [h]⟩
theorem rowsDat_inj : ∀ rs qs : List (List Int), rs.map rowDat = qs.map rowDat ↔ rs = qs
  | [], [] => by simp
  | [], _ :: _ => by simp
  | _ :: _, [] => by simp
  | x :: r, y :: q => by simp only [List.map_cons, List.cons.injEq, rowDat_inj, rowsDat_inj r q]
theorem rowDat_mem {r : List Int} {rs : List (List Int)} : rowDat r ∈ rs.map rowDat ↔ r ∈ rs := by
  rw [List.mem_map]
  exact ⟨fun ⟨q, h, e⟩ => rowDat_inj.mp e ▸ h, fun h => ⟨r, h, rfl⟩⟩
theorem rowDat_ok (r : List Int) : kqdOk 8 (rowDat r) = true := by
  show (r.map Dat.int).all (kqdOk 7) = true
  rw [List.all_eq_true]
  intro d hd
  obtain ⟨i, _, rfl⟩ := List.mem_map.mp hd
  simp [kqdOk]
theorem rowsDat_ok (rs : List (List Int)) : ∀ d ∈ rs.map rowDat, kqdOk 8 d = true := fun d hd => by
  obtain ⟨r, _, rfl⟩ := List.mem_map.mp hd
  exact rowDat_ok r
theorem ints_dat {T : List (Addr × Obj)} {vs : List Value} {r : List Int} (h : IntsAre vs r) : DatAll T vs (r.map Dat.int) := by
  induction h with
  | nil => exact .nil
  | cons n t _ ih => exact .cons (.int n t) ih
theorem RowIn.dat {T : List (Addr × Obj)} {v : Value} {r : List Int} (x : RowIn T v r) : DatIn T v (rowDat r) := by
  obtain ⟨a, vs, n, rfl, hm, hi⟩ := x
  exact .tuple hm (ints_dat hi)
theorem rows_dat {T : List (Addr × Obj)} {vs : List Value} {rs : List (List Int)} (x : F2 (RowIn T) vs rs) : DatAll T vs (rs.map rowDat) := by
  induction x with
  | nil => exact .nil
  | cons h _ ih => exact .cons h.dat ih
section
variable {a b : Addr} {xs ys : List Value} {ka kb : Nat} {rs qs : List (List Int)} {Q : Value → Shared → Prop}
theorem eq_listsN (N : News h₀ L s.heap news) (ma : (a, listOf xs.toArray ka) ∈ news) (mb : (b, listOf ys.toArray kb) ∈ news) (hx : F2 (RowIn news) xs rs) (hy : F2 (RowIn news) ys qs) (hu : A.units + 64 < cLine)
    (h : Q (.bool (decide (rs = qs))) s) : wpAny (model prog w) A (compareOp .Eq (.ref a) (.ref b)) Q E s :=
  kqd_eq N ma rfl rfl (rows_dat hx) (fun _ h => h) mb rfl rfl (rows_dat hy) (fun _ h => h) (rowsDat_ok _) (rowsDat_ok _) hu (by rw [decide_eq_decide.mpr (rowsDat_inj rs qs)]; exact h)
theorem ne_listsN (N : News h₀ L s.heap news) (ma : (a, listOf xs.toArray ka) ∈ news) (mb : (b, listOf ys.toArray kb) ∈ news) (hx : F2 (RowIn news) xs rs) (hy : F2 (RowIn news) ys qs) (hu : A.units + 64 < cLine)
    (h : Q (.bool (!decide (rs = qs))) s) : wpAny (model prog w) A (compareOp .NotEq (.ref a) (.ref b)) Q E s :=
  kqd_ne N ma rfl rfl (rows_dat hx) (fun _ h => h) mb rfl rfl (rows_dat hy) (fun _ h => h) (rowsDat_ok _) (rowsDat_ok _) hu (by rw [decide_eq_decide.mpr (rowsDat_inj rs qs)]; exact h)
theorem in_rowsN {v : Value} {r : List Int} (N : News h₀ L s.heap news) (ma : (a, listOf xs.toArray ka) ∈ news) (hx : F2 (RowIn news) xs rs) (hv : RowIn news v r) (hu : A.units + 64 < cLine)
    (h : Q (.bool (decide (r ∈ rs))) s) : wpAny (model prog w) A (compareOp .In v (.ref a)) Q E s :=
  kqd_isIn N ma rfl rfl (rows_dat hx) (fun _ h => h) hv.dat (fun _ h => h) (rowsDat_ok _) (rowDat_ok _) hu (by rw [decide_eq_decide.mpr rowDat_mem]; exact h)
theorem add_rowsN (F : Fr h₀ L s.heap m) (N : News h₀ L s.heap news) (ma : (a, listOf xs.toArray ka) ∈ news) (mb : (b, listOf ys.toArray kb) ∈ news) (hn : xs.length + ys.length < 1000)
    (h : ∀ D h', Fr h₀ L h' m → News h₀ L h' ((D, listOf (List.toArray (xs ++ ys)) 0) :: news) → (∀ q ∈ news, q.1 < D) → Q (.ref D) { s with heap := h' }) : wpAny (model prog w) A (binaryOp .Add (.ref a) (.ref b)) Q E s := by
  refine add_arrays F N (its := xs.toArray) (its2 := ys.toArray) ⟨_, (N _ ma).1, rfl, _, rfl⟩ ⟨_, (N _ mb).1, rfl, _, rfl⟩ (fun h' F' N' => h _ h' F' (by simpa using N') fun q hq => Heap.lt_size (N q hq).1) ?_
  simp only [List.size_toArray, sizeLine_eq]; omega
theorem RowIn.at {P : Prop} {v : Value} {r : List Int} (N : News h₀ L s.heap news) (x : RowIn news v r) (prog : Program) (w : World) (k : ∀ a, v = .ref a → IsRow prog w s.heap r a → P) : P := let ⟨a, e, hr⟩ := RowIn.row (prog := prog) (w := w) N v r x; k a e hr
theorem ne_rowsN {v u : Value} {r q : List Int} (N : News h₀ L s.heap news) (hv : RowIn news v r) (hu' : RowIn news u q) (hu : A.units < cLine) (h : Q (.bool (decide (r ≠ q))) s) : wpAny (model prog w) A (compareOp .NotEq v u) Q E s :=
  hv.at N prog w fun a e ha => hu'.at N prog w fun b e' hb => by subst e; subst e'; exact ne_rows hu ha hb h
theorem le_rowsN {v u : Value} {r q : List Int} (N : News h₀ L s.heap news) (hv : RowIn news v r) (hu' : RowIn news u q) (hu : A.units < cLine) (h : Q (.bool (decide (r ≤ q))) s) : wpAny (model prog w) A (compareOp .LtE v u) Q E s :=
  hv.at N prog w fun a e ha => hu'.at N prog w fun b e' hb => by subst e; subst e'; exact le_rows hu ha hb h
theorem notIn_rowsN {v : Value} {r : List Int} (N : News h₀ L s.heap news) (ma : (a, listOf xs.toArray ka) ∈ news) (hx : F2 (RowIn news) xs rs) (hv : RowIn news v r) (hu : A.units + 64 < cLine)
    (h : Q (.bool (!decide (r ∈ rs))) s) : wpAny (model prog w) A (compareOp .NotIn v (.ref a)) Q E s :=
  kqd_notIn N ma rfl rfl (rows_dat hx) (fun _ h => h) hv.dat (fun _ h => h) (rowsDat_ok _) (rowDat_ok _) hu (by rw [decide_eq_decide.mpr rowDat_mem]; exact h)
end
end

/-! what _law_tidy keeps of a sorted list -/
def tidyStep (gs : List (List Int)) (r : List Int) : List (List Int) := if gs.getLast? = some r then gs else gs ++ [r]
def tidyL (rs : List (List Int)) : List (List Int) := rs.foldl tidyStep []
theorem tidyL_snoc (rs : List (List Int)) (r : List Int) : tidyL (rs ++ [r]) = tidyStep (tidyL rs) r := by unfold tidyL; rw [List.foldl_append]; rfl
theorem tidyL_length (rs : List (List Int)) : (tidyL rs).length ≤ rs.length := by
  have : ∀ (rs acc : List (List Int)), (rs.foldl tidyStep acc).length ≤ acc.length + rs.length := by
    intro rs
    induction rs with
    | nil => intro acc; exact Nat.le_refl _
    | cons r rs ih =>
      intro acc
      refine Nat.le_trans (ih _) ?_
      have : (tidyStep acc r).length ≤ acc.length + 1 := by
        unfold tidyStep
        split
        · omega
        · simp
      rw [List.length_cons]; omega
  simpa [tidyL] using this rs []

theorem row_lt {a b : List Int} (h : a ≤ b) (hn : a ≠ b) : a < b := by
  rcases Classical.em (a < b) with h1 | h1
  · exact h1
  · exact absurd (List.le_antisymm h (List.not_lt.mp h1)) hn
/-- the rows of a list, each once, from the least to the greatest -/
def Canon (ts rs : List (List Int)) : Prop := ts.Pairwise (· < ·) ∧ ∀ r, r ∈ ts ↔ r ∈ rs
theorem Canon.uniq {ts us rs : List (List Int)} (x : Canon ts rs) (y : Canon us rs) : ts = us := by
  refine List.Perm.eq_of_pairwise (le := (· < ·)) (fun a b _ _ h1 h2 => absurd h2 (List.lt_asymm h1)) x.1 y.1 ?_
  refine (List.perm_ext_iff_of_nodup (x.1.imp fun h => ?_) (y.1.imp fun h => ?_)).mpr fun r => (x.2 r).trans (y.2 r).symm
  · intro e; rw [e] at h; exact List.lt_irrefl _ h
  · intro e; rw [e] at h; exact List.lt_irrefl _ h
theorem Canon.same {ts rs qs : List (List Int)} (x : Canon ts rs) (h : ∀ r, r ∈ rs ↔ r ∈ qs) : Canon ts qs := ⟨x.1, fun r => (x.2 r).trans (h r)⟩
theorem Canon.of_sorted {qs rs : List (List Int)} (hs : Sorted qs) (hn : qs.Nodup) (h : ∀ r, r ∈ qs ↔ r ∈ rs) : Canon qs rs := by
  refine ⟨?_, h⟩
  have hn' : qs.Pairwise (· ≠ ·) := hn
  refine (hs.and hn').imp fun h => ?_
  exact row_lt h.1 h.2
theorem Canon.self {ts rs : List (List Int)} (x : Canon ts rs) : Canon ts ts := ⟨x.1, fun _ => Iff.rfl⟩
theorem tidyStep_ok {acc : List (List Int)} {r : List Int} (h : acc.Pairwise (· < ·)) (hr : ∀ a ∈ acc, a ≤ r) : (tidyStep acc r).Pairwise (· < ·) ∧ ∀ x, x ∈ tidyStep acc r ↔ x ∈ acc ∨ x = r := by
  rcases List.eq_nil_or_concat acc with rfl | ⟨bs, b, rfl⟩
  · refine ⟨by simp [tidyStep], fun x => by simp [tidyStep]⟩
  · rw [List.concat_eq_append] at h hr ⊢
    have e : (bs ++ [b]).getLast? = some b := by simp
    unfold tidyStep
    rw [e]
    by_cases hb : b = r
    · subst hb
      rw [if_pos rfl]
      exact ⟨h, fun x => ⟨.inl, fun z => z.elim id fun z => by subst z; simp⟩⟩
    · rw [if_neg (by simpa using hb)]
      have hbr : b < r := row_lt (hr b (by simp)) hb
      refine ⟨List.pairwise_append.mpr ⟨h, List.pairwise_singleton _ _, fun a ha x hx => ?_⟩, fun x => by simp [or_assoc]⟩
      rw [List.mem_singleton.mp hx]
      rcases List.mem_append.mp ha with ha | ha
      · exact List.lt_trans ((List.pairwise_append.mp h).2.2 a ha b (by simp)) hbr
      · rw [List.mem_singleton.mp ha]; exact hbr
theorem tidy_go : ∀ (qs acc : List (List Int)), Sorted qs → acc.Pairwise (· < ·) → (∀ a ∈ acc, ∀ r ∈ qs, a ≤ r) → (qs.foldl tidyStep acc).Pairwise (· < ·) ∧ ∀ x, x ∈ qs.foldl tidyStep acc ↔ x ∈ acc ∨ x ∈ qs
  | [], acc, _, h, _ => ⟨h, fun x => by simp⟩
  | q :: qs, acc, hs, h, ha => by
    have hs' := List.pairwise_cons.mp hs
    obtain ⟨a1, a2⟩ := tidyStep_ok h fun a x => ha a x q (.head _)
    obtain ⟨b1, b2⟩ := tidy_go qs (tidyStep acc q) hs'.2 a1 fun a hm r hr => by
      rcases (a2 a).mp hm with hm | rfl
      · exact ha a hm r (.tail _ hr)
      · exact hs'.1 r hr
    refine ⟨b1, fun x => ?_⟩
    rw [List.foldl_cons, b2, a2, List.mem_cons, or_assoc]
theorem tidy_canon {qs : List (List Int)} (h : Sorted qs) : Canon (tidyL qs) qs := by
  obtain ⟨a, b⟩ := tidy_go qs [] h List.Pairwise.nil fun _ hm => nomatch hm
  exact ⟨a, fun r => (b r).trans (by simp)⟩
/-- the namespace of a SortedSet whose list is at D -/
abbrev itemsD (w : World) (D : Addr) (t : Tok) (n : Nat) : Obj := dictOf [{ hash := PyData.keyHash w.params (Str.ofString "_items"), key := .str (Str.ofString "_items") t, val := .ref D }] n
theorem units_make (A : Around) (C : Addr) (rest : List Value) : (A.under (.builtin "type.__call__" ⟨.ref C :: rest, []⟩)).units = A.units + 1 := by rfl

/-- [y for y in rows if …] -/
def CompBack (h₀ : Heap) (L : Addr) (m : Str → Option Value) (nw : List (Addr × Obj)) (s s' : Shared) : Prop := ∃ h' tk', s' = { s with heap := h', toks := tk' } ∧ Fr h₀ L h' m ∧ News h₀ L h' nw
theorem compT_rows {prog : Program} {w : World} {A : Around} {s : Shared} {h₀ : Heap} {L : Addr} {m : Str → Option Value} {env : Env} {ct elt : Expr} {x : Str} {scope : Scope} {cl : List (Str × Addr)} {S : List (Addr × Obj) → Prop} {Fin : List Value → List (Addr × Obj) → Prop} {news base : List (Addr × Obj)} {us : List Value} {ts : List (List Int)} (p : List Int → Bool) (hts : F2 (RowIn base) us ts) (hS : S news)
    (turn : ∀ v r I oI C oC D m₂ h tk (E' : Value → Shared → Prop) ys, RowIn base v r → LCg.NsObj oC m₂ → m₂ x = some v → Fr h₀ L h m → News h₀ L h ((I, oI) :: (C, oC) :: (D, LCg.lst ys) :: news) → LCg.Off3 I C D news → ((@Ne Nat I C) ∧ (@Ne Nat I D) ∧ (@Ne Nat C D)) →
      wpAny (model prog w) A (isTrue ct (compEnvC scope cl C env) (eval ct (compEnvC scope cl C env))) (fun ok s' => ok = p r ∧ CompBack h₀ L m ((I, oI) :: (C, oC) :: (D, LCg.lst ys) :: news) { s with heap := h, toks := tk } s') E' { s with heap := h, toks := tk })
    (turnE : ∀ v I oI C oC D m₂ h tk (E' : Value → Shared → Prop) ys, LCg.NsObj oC m₂ → m₂ x = some v → Fr h₀ L h m → News h₀ L h ((I, oI) :: (C, oC) :: (D, LCg.lst ys) :: news) → LCg.Off3 I C D news → ((@Ne Nat I C) ∧ (@Ne Nat I D) ∧ (@Ne Nat C D)) →
      wpAny (model prog w) A (eval elt (compEnvC scope cl C env)) (fun y s' => y = v ∧ CompBack h₀ L m ((I, oI) :: (C, oC) :: (D, LCg.lst ys) :: news) { s with heap := h, toks := tk } s') E' { s with heap := h, toks := tk })
    (fin : ∀ ys, F2 (RowIn base) ys (ts.filter p) → Fin ys news) :
    LCt.CompRestT prog w A h₀ L m env ct elt x scope cl s S (fun i v => (List.toArray us)[i]? = some v) Fin (List.toArray us).size 0 [] news := by
  have key : ∀ k i ys, i + k = us.length → F2 (RowIn base) ys ((ts.take i).filter p) → LCt.CompRestT prog w A h₀ L m env ct elt x scope cl s S (fun i v => (List.toArray us)[i]? = some v) Fin k i ys news := by
    intro k
    induction k with
    | zero =>
      intro i ys hi hy
      refine LCt.CompRestT.zero (fin ys ?_)
      rwa [show i = ts.length from by have := hts.length; omega, List.take_length] at hy
    | succ k ih =>
      intro i ys hi hy
      refine LCt.CompRestT.succ ?_
      intro v I oI C oC D m₂ h tk E' hv hC hx F N off ne
      obtain ⟨r, hr, hvr⟩ := hts.get (i := i) (a := v) (by simpa using hv)
      have htake : ts.take (i + 1) = ts.take i ++ [r] := by rw [List.take_add_one, hr]; rfl
      refine wpAny_mono (turn v r I oI C oC D m₂ h tk E' ys hvr hC hx F N off ne) (fun ok s' h1 => ?_) fun _ _ e => e
      obtain ⟨rfl, h1, tk1, rfl, F1, N1⟩ := h1
      by_cases hp : p r = true
      · rw [if_pos hp]
        refine wpAny_mono (turnE v I oI C oC D m₂ h1 tk1 E' ys hC hx F1 N1 off ne) (fun y s' h2 => ?_) fun _ _ e => e
        obtain ⟨rfl, h2, tk2, rfl, F2', N2⟩ := h2
        refine ⟨h2, tk2, news, rfl, F2', N2, off, hS, ih (i + 1) _ (by omega) ?_⟩
        rw [htake, List.filter_append]
        refine hy.append ?_
        rw [List.filter_cons_of_pos hp]
        exact .cons hvr .nil
      · rw [if_neg hp]
        refine ⟨h1, tk1, news, rfl, F1, N1, off, hS, ih (i + 1) _ (by omega) ?_⟩
        rw [htake, List.filter_append, List.filter_cons_of_neg hp]
        simpa using hy
  have := key us.length 0 [] (by omega) .nil
  simpa using this

/-- a goal kept for the hand -/
def Hold (P : Prop) : Prop := P
theorem Hold.keep {P : Prop} (h : Hold P) : P := h
theorem Hold.out {P : Prop} (h : P) : Hold P := h
end Mine
end
/-! part GenR -/
section
open PySem PySem.Calls
set_option maxRecDepth 100000
namespace Mine
section
variable {M : Model} {A : Around} {R : GenEnd} {Y : Protocol} {n : Nat} {s₀ : Shared} {c : Code} {fs : List Frame} {s : Shared} {env : Env}
  {K : Flow → Sem Fin} {H : Value → Sem Fin} {gd : Bool → Bool} {lv : List Value → List Value}

/-- what is to be done behind a loop's own code -/
abbrev behind (K : Flow → Sem Fin) (H : Value → Sem Fin) (gd : Bool → Bool) (lv : List Value → List Value) (env : Env) (r : Result) : Sem Fin :=
  ((match r with | .ok f => (.pure f : Sem Flow) | .error e => .raise e).onRaise fun (x : Value) => do
        if (← field x 1) == Value.none then unsupported "frame.own-activation:exception-without-traceback"
        setFlight x env.frame).wrap K H gd lv

theorem seg_For {target iter : Expr} {body orelse : List Stmt} {pos : Pos} (hs : ∀ x, foldedSetIterable iter env x = pure x)
    (h : wpAny M (A.over c fs) (eval iter env) (fun x s₁ => wpAny M (A.over c fs) (pyIter x) (fun it s₂ => ∀ p, Seg M A R Y n s₀ (.forLoop target it body orelse env) (M.den (.forLoop target it body orelse env))
      (.ret (behind K H gd lv env) none (gd false) (lv []) c p [] :: fs) s₂) (fun x s' => Seg M A R Y n s₀ c (H x) fs s') s₁) (fun x s' => Seg M A R Y n s₀ c (H x) fs s') s) :
    Seg M A R Y n s₀ c ((exec (.For target iter body orelse pos) env).wrap K H gd lv) fs s := by
  rw [exec_For]
  refine seg_bind_wrap (wpAny_standAt ?_)
  refine seg_bind_wrap (wpAny_mono h (fun x s₁ h₁ => ?_) fun _ _ e => e)
  refine seg_bind_wrap (wpAny_of_eq (hs x) ?_)
  refine seg_bind_wrap (wpAny_standAt ?_)
  refine seg_bind_wrap (wpAny_holding (wpAny_mono h₁ (fun it s₂ h₂ => ?_) fun _ _ e => e))
  exact seg_call h₂
end
section
variable {prog : Program} {w : World} {A : Around} {R : GenEnd} {Y : Protocol} {n : Nat} {s₀ : Shared} {fs : List Frame} {s : Shared} {env : Env}

theorem seg_forLoop {target : Expr} {it : Value} {body orelse : List Stmt} (ht : ∀ v, letOwnedTupleGo target it v = pure ())
    (h : wpAny (model prog w) (A.over (.forLoop target it body orelse env) fs) (pyNext it) (fun r s' => match r with
        | none => Seg (model prog w) A R Y n s₀ (.block orelse env) ((model prog w).den (.block orelse env)) fs s'
        | some v => wpAny (model prog w) (A.over (.forLoop target it body orelse env) fs) (assign target env v) (fun _ s₂ =>
            Seg (model prog w) A R Y n s₀ (.forLoop target it body orelse env) ((execs body env).wrap (fun f => match f with
            | .next | .cont => .pure (.again (.forLoop target it body orelse env))
            | .brk => .pure (.done .next)
            | .ret v => .pure (.done (.ret v))) (fun e => (do noteFrame e env; theTreesLotGoes e : Sem Unit).wrap (fun _ => .raise e) .raise id id) id id) fs s₂)
          (fun x s' => Seg (model prog w) A R Y n s₀ (.forLoop target it body orelse env) ((do noteFrame x env; theTreesLotGoes x : Sem Unit).wrap (fun _ => .raise x) .raise id id) fs s') s')
      (fun x s' => Seg (model prog w) A R Y n s₀ (.forLoop target it body orelse env) ((do noteFrame x env; theTreesLotGoes x : Sem Unit).wrap (fun _ => .raise x) .raise id id) fs s') s) :
    Seg (model prog w) A R Y n s₀ (.forLoop target it body orelse env) ((model prog w).den (.forLoop target it body orelse env)) fs s := by
  show Seg _ A R Y n s₀ _ ((forTurn target it body orelse env).onRaise (fun x => do noteFrame x env; theTreesLotGoes x)) fs s
  unfold forTurn
  rw [Sem.onRaise_eq_wrap]
  refine seg_bind_wrap (wpAny_standAt ?_)
  refine seg_bind_wrap (wpAny_onRaise (wpAny_mono h (fun r s' hr => ?_) fun x s' hx => ?_))
  · cases r with
    | none => exact seg_again rfl hr
    | some v =>
      refine seg_bind_wrap (wpAny_of_eq (ht v) ?_)
      refine seg_bind_wrap (wpAny_mono hr (fun _ s₂ h₂ => ?_) fun x s' hx => ?_)
      · rw [Sem.bind_eq_wrap', Sem.wrap_wrap]
        rw [Sem.wrap_congr (execs body env) _ _ (K' := fun f => match f with
            | .next | .cont => .pure (.again (.forLoop target it body orelse env))
            | .brk => .pure (.done .next)
            | .ret v => .pure (.done (.ret v))) (H' := (fun e => (do noteFrame e env; theTreesLotGoes e : Sem Unit).wrap (fun _ => .raise e) .raise id id))
          (fun f => by cases f <;> rfl)
          (fun e => by first | exact Sem.bind_eq_wrap _ _ | (show (do noteFrame e env; theTreesLotGoes e : Sem Unit).bind (fun _ => .raise e) = _; rw [Sem.bind_eq_wrap]))]
        exact h₂
      · rw [← Sem.bind_eq_wrap] at hx; exact hx
  · refine wpAny_standAt ?_
    rw [← Sem.bind_eq_wrap] at hx; exact hx
end
end Mine
end
/-! part GenS -/
section
open PySem PySem.Calls
set_option maxRecDepth 100000
namespace Mine

def Since (N a : Addr) (s₀ s : Shared) : Prop := ∃ h' tk, s = { s₀ with heap := h', toks := tk } ∧ ∀ b o, (b < N ∨ b = a) → s₀.heap.get? b = some o → h'.get? b = some o
theorem Since.refl (N a : Addr) (s : Shared) : Since N a s s := ⟨s.heap, s.toks, rfl, fun _ _ _ e => e⟩
theorem Since.step {N a : Addr} {s₀ s : Shared} (x : Since N a s₀ s) {h' : Heap} {tk : Nat} (hk : ∀ b o, (b < N ∨ b = a) → s.heap.get? b = some o → h'.get? b = some o) : Since N a s₀ { s with heap := h', toks := tk } := by
  obtain ⟨h₁, tk₁, rfl, hk₁⟩ := x
  exact ⟨h', tk, rfl, fun b o hb e => hk b o hb (hk₁ b o hb e)⟩
abbrev RP (N a : Addr) : GenEnd := fun n s₀ r s₁ => r = .ok (.ret .none) ∧ (n = 0 ∧ Since N a s₀ s₁)
def YP (us : List Value) (N a S : Addr) : Protocol := fun m s₀ v s kap => us[us.length - 1 - m]? = some v ∧ Since N a s₀ s ∧ ∀ s'' : Shared, (∀ b o, b ≠ S → s.heap.get? b = some o → s''.heap.get? b = some o) → kap (.send .none) s''

section
variable {prog : Program} {w : World} {A : Around}
theorem seg_loop {env : Env} {item : Str} {px p1 p2 p3 : Pos} {us : List Value} {D I N a S : Addr} {rest : Result → Sem Fin} {c : Code} {p : Pos} (hh : A.handled = none) (hkf : env.scope.kind = .function)
    (hx : env.kindOf item = some .local) (hp : (env.scope.kind == .class || (env.scope.kind == .module && env.locals != env.globals)) = false) (hco : env.scope.isCoroutine = false) (hin : interactive env = false) (hdb : (item == ("__debug__" : Str)) = false)
    (hCN : N ≤ env.locals) (hCa : env.locals ≠ a) (hCS : env.locals ≠ S) (hCI : env.locals ≠ I) (hCD : env.locals ≠ D) (hIN : N ≤ I) (hIa : I ≠ a) (hIS : I ≠ S) (hID : I ≠ D) (hDS : D ≠ S)
    (hrest : ∀ s₀ s : Shared, Since N a s₀ s → Seg (model prog w) A (RP N a) (YP us N a S) 0 s₀ c (rest (.ok .next)) [] s) :
    ∀ (k i : Nat) (s₀ s : Shared) (m : Str → Option Value), us.length - i = k → i ≤ us.length → s.heap.IsListIter I D i → s.heap.IsList D (List.toArray us) → s.heap.Ns env.locals m → Since N a s₀ s →
      Seg (model prog w) A (RP N a) (YP us N a S) (us.length - i) s₀ (.forLoop (.Name item px) (.ref I) [.Expr (.Yield (some (.Name item p1)) p2) p3] [] env)
        ((model prog w).den (.forLoop (.Name item px) (.ref I) [.Expr (.Yield (some (.Name item p1)) p2) p3] [] env)) (.ret rest none false [] c p [] :: []) s := by
  have hh' : (A.over (.forLoop (.Name item px) (.ref I) [.Expr (.Yield (some (.Name item p1)) p2) p3] [] env) (.ret rest none false [] c p [] :: [])).handled = none := hh
  intro k
  induction k with
  | zero =>
    intro i s₀ s m hk hi hit hl hn hs
    have hin' : i = us.length := by omega
    subst hin'
    refine seg_forLoop (fun _ => rfl) (wpAny_pyNext_list_end hh' hit hl (by simp) fun h' he => ?_)
    dsimp only
    rw [Nat.sub_self]
    show Seg _ A _ _ _ s₀ _ (leafOf (.ok .next)) _ _
    refine seg_leaf (.ok .next) (hrest s₀ _ (hs.step (tk := s.toks) fun b o hb e => he b o (fun h => ?_) e))
    rcases hb with hb | hb
    · rw [h] at hb; exact absurd hb (Nat.not_lt.mpr hIN)
    · exact hIa (h ▸ hb)
  | succ k ih =>
    intro i s₀ s m hk hi hit hl hn hs
    have hlt : i < us.length := by omega
    obtain ⟨v, hv⟩ : ∃ v, us[i]? = some v := ⟨us[i], by simp [hlt]⟩
    have hm : us.length - i = (us.length - (i + 1)) + 1 := by omega
    refine seg_forLoop (fun _ => rfl) (wpAny_pyNext_list_item hit hl (x := v) (by simpa using hv) fun h₁ hit₁ hs₁ => ?_)
    dsimp only
    refine wpAny_assign_Name (wpAny_storeName_local hx (hn.at' fun o e => hs₁.extBut _ o hCI e) (fun h₂ hn₂ hs₂ => ?_) hp)
    have hit₂ : h₂.IsListIter I D (i + 1) := hit₁.at fun o e => hs₂.extBut _ o hCI.symm e
    have hl₂ : h₂.IsList D (List.toArray us) := hl.at fun o e => hs₂.extBut _ o hCD.symm (hs₁.extBut _ o hID.symm e)
    refine seg_execs_cons ?_
    rw [hm]
    refine seg_Expr_Yield rfl rfl rfl (wpAny_Name (wpAny_loadName_local (v := v) hkf hx hn₂ (by simp) ?_) hdb) hco hin
    refine fun kap hkap => ⟨?_, hs.step fun b o hb e => ?_, fun s'' hal => hkap .none s'' (seg_execs_nil ?_)⟩
    · rw [show us.length - 1 - (us.length - (i + 1)) = i from by omega]; exact hv
    · have hbI : b ≠ I := by
        rcases hb with hb | hb
        · intro h; rw [h] at hb; exact absurd hb (Nat.not_lt.mpr hIN)
        · intro h; exact hIa (h ▸ hb)
      have hbC : b ≠ env.locals := by
        rcases hb with hb | hb
        · intro h; rw [h] at hb; exact absurd hb (Nat.not_lt.mpr hCN)
        · intro h; exact hCa (h ▸ hb)
      exact hs₂.extBut b o hbC (hs₁.extBut b o hbI e)
    · refine seg_again rfl (ih (i + 1) s'' s'' _ (by omega) hlt (hit₂.at fun o e => hal _ o hIS e) (hl₂.at fun o e => hal _ o hDS e) (hn₂.at' fun o e => hal _ o hCS e) (Since.refl _ _ _))

/-- a generator that gives the items of us -/
def GS (prog : Program) (w : World) (A : Around) (a : Addr) (g : Nat) (N S : Addr) (us : List Value) (j : Nat) (s : Shared) : Prop :=
  s.heap.IsGen a g ∧ s.heap.NoLimit ∧ ∃ gs, s.gens[g]? = some gs ∧ ∀ s'' : Shared, (∀ b o, b ≠ S → s.heap.get? b = some o → s''.heap.get? b = some o) →
    gs.Goes (model prog w) A.in1 (fun n s₀ r s₁ => r = .ok (.ret .none) ∧ (n = 0 ∧ Since N a s₀ s₁)) (YP us N a S) (us.length - j) (.send .none) s''
theorem GS.frame {a : Addr} {g : Nat} {N S : Addr} {us : List Value} {j : Nat} {s : Shared} (x : GS prog w A a g N S us j s) (haS : a ≠ S) (hcS : cStatics ≠ S) {h' : Heap} {tk : Nat} (hk : ∀ b o, b ≠ S → s.heap.get? b = some o → h'.get? b = some o) :
    GS prog w A a g N S us j { s with heap := h', toks := tk } :=
  ⟨let ⟨o, nm, qn, ho, r⟩ := x.1; ⟨o, nm, qn, hk a o haS ho, r⟩, (let ⟨mc, hns, hnn⟩ := x.2.1; ⟨mc, hns.at' fun o e => hk cStatics o hcS e, hnn⟩),
    let ⟨gs, hgs, hgo⟩ := x.2.2; ⟨gs, hgs, fun s'' hal => hgo s'' fun b o hb e => hal b o hb (hk b o hb e)⟩⟩
def GMoved (g : Nat) (N : Addr) (s s' : Shared) : Prop := (∀ b o, b < N → s.heap.get? b = some o → s'.heap.get? b = some o) ∧ GenOnly g s.gens s'.gens ∧ s'.drawn = s.drawn ∧ s'.os = s.os
theorem GS.next {a : Addr} {g : Nat} {N S : Addr} {us : List Value} {j : Nat} {s : Shared} {Q : Option Value → Shared → Prop} {E : Value → Shared → Prop} (hh : A.handled = none) (hroom : A.depth < recursionLimit) (hcN : cStatics < N) (x : GS prog w A a g N S us j s) (hj : j < us.length)
    (hQ : ∀ v s', us[j]? = some v → GS prog w A a g N S us (j + 1) s' → GMoved g N s s' → Q (some v) s') : wpAny (model prog w) A (pyNext (.ref a)) Q E s := by
  obtain ⟨hg, hl, gs, hgs, hgo⟩ := x
  obtain ⟨m, hm⟩ : ∃ m, us.length - j = m + 1 := ⟨us.length - j - 1, by omega⟩
  rw [hm] at hgo
  refine wpAny_pyNext_gen (P := fun n s₀ s₁ => n = 0 ∧ Since N a s₀ s₁) hh hl hroom hg hgs (hgo _ fun _ _ _ e => e) (fun v s₁ gs' hv => ?_) (fun s₁ hp h' hk => ?_)
  · obtain ⟨hi, ⟨h₁, tk₁, rfl, hk₁⟩, hkap⟩ := hv
    have hidx : us.length - 1 - (m + 1 - 1) = j := by omega
    rw [hidx] at hi
    refine hQ v _ hi ⟨let ⟨o, nm, qn, ho, r⟩ := hg; ⟨o, nm, qn, hk₁ a o (.inr rfl) ho, r⟩, (let ⟨mc, hns, hnn⟩ := hl; ⟨mc, hns.at' fun o e => hk₁ cStatics o (.inl hcN) e, hnn⟩), gs', setGen_self (gs := .running) (setGen_self hgs), fun s'' hal => ?_⟩
      ⟨fun b o hb e => hk₁ b o (.inl hb) e, (GenOnly.setGen s g .running).trans (GenOnly.setGen _ g gs'), rfl, rfl⟩
    have e : us.length - (j + 1) = m := by omega
    rw [e]
    exact hkap s'' hal
  · exact absurd hp.1 (Nat.succ_ne_zero m)
theorem GS.done {a : Addr} {g : Nat} {N S : Addr} {us : List Value} {s : Shared} {Q : Option Value → Shared → Prop} {E : Value → Shared → Prop} (hh : A.handled = none) (hroom : A.depth < recursionLimit) (x : GS prog w A a g N S us us.length s)
    (hQ : ∀ s', s'.gens[g]? = some .finished → GMoved g N s s' → Q none s') : wpAny (model prog w) A (pyNext (.ref a)) Q E s := by
  obtain ⟨hg, hl, gs, hgs, hgo⟩ := x
  rw [Nat.sub_self] at hgo
  refine wpAny_pyNext_gen (P := fun n s₀ s₁ => n = 0 ∧ Since N a s₀ s₁) hh hl hroom hg hgs (hgo _ fun _ _ _ e => e) (fun v s₁ gs' hv => ?_) (fun s₁ hp h' hk => ?_)
  · obtain ⟨_, _, hkap⟩ := hv
    exact False.elim (hkap s₁ fun _ _ _ e => e)
  · obtain ⟨_, h₁, tk₁, rfl, hk₁⟩ := hp
    refine hQ _ (setGen_self (gs := .running) (setGen_self hgs)) ⟨fun b o hb e => hk b o (hk₁ b o (.inl hb) e), (GenOnly.setGen s g .running).trans (GenOnly.setGen _ g .finished), rfl, rfl⟩

theorem GMoved.refl (g : Nat) (N : Addr) (s : Shared) : GMoved g N s s := ⟨fun _ _ _ e => e, ⟨rfl, fun _ _ => rfl⟩, rfl, rfl⟩
theorem GMoved.trans {g : Nat} {N : Addr} {s s' s'' : Shared} (x : GMoved g N s s') (y : GMoved g N s' s'') : GMoved g N s s'' :=
  ⟨fun b o hb e => y.1 b o hb (x.1 b o hb e), x.2.1.trans y.2.1, y.2.2.1.trans x.2.2.1, y.2.2.2.trans x.2.2.2⟩

/-- list.extend's loop over such a generator -/
def GMovedS (g : Nat) (N S : Addr) (s s' : Shared) : Prop := (∀ b o, b < N → b ≠ S → s.heap.get? b = some o → s'.heap.get? b = some o) ∧ GenOnly g s.gens s'.gens ∧ s'.drawn = s.drawn ∧ s'.os = s.os
theorem extend_loop_G {a : Addr} {g : Nat} {N S : Addr} {us : List Value} {res : Value} {R : Result → Shared → Prop} (hh : A.handled = none) (hroom : A.depth < recursionLimit) (hcN : cStatics < N) (haS : a ≠ S) (hcS : cStatics ≠ S) (hSN : S < N) (hn : us.length < 1000) :
    ∀ (k i : Nat) (s : Shared) (acc : Array Value) (c : Nat), us.length - i = k → i ≤ us.length → GS prog w A.in1 a g N S us i s → s.heap.get? S = some { cls := .type "list", dict := none, data := .seq acc c, slots := #[] } → acc.toList = us.take i →
      (∀ s' c', s'.gens[g]? = some .finished → GMovedS g N S s s' → s'.heap.get? S = some { cls := .type "list", dict := none, data := .seq (List.toArray us) c', slots := #[] } → R (.ok (.ret res)) s') →
      codeAny (model prog w) A (.builtin "list.extend.loop" ⟨[.ref S, .ref a, res], []⟩) R s := by
  intro k
  induction k with
  | zero =>
    intro i s acc c hk hi hst hS hacc hR
    have hin : i = us.length := by omega
    subst hin
    refine codeAny_builtin F.entry_extend_loop ?_
    rw [Around.under_plainId F.plain_extend_loop _]
    show wpAny _ A.in1 (pyNext (.ref a) >>= _) _ _ s
    refine wpAny_bind (hst.done hh hroom fun s' hfin hm => ?_)
    refine wpAny_pure (hR s' c hfin ⟨fun b o hb _ e => hm.1 b o hb e, hm.2⟩ ?_)
    rw [List.take_length] at hacc
    have e : acc = List.toArray us := by apply Array.toList_inj.mp; simpa using hacc
    rw [← e]
    exact hm.1 S _ hSN hS
  | succ k ih =>
    intro i s acc c hk hi hst hS hacc hR
    have hlt : i < us.length := by omega
    refine codeAny_builtin F.entry_extend_loop ?_
    rw [Around.under_plainId F.plain_extend_loop _]
    show wpAny _ A.in1 (pyNext (.ref a) >>= _) _ _ s
    refine wpAny_bind (hst.next hh hroom hcN hlt fun v s' hv hst' hm => ?_)
    have hS' := hm.1 S _ hSN hS
    have hsz : acc.size = i := by
      have := congrArg List.length hacc
      rw [List.length_take] at this
      simp at this; omega
    show wpAny _ A.in1 (updateSeq S (·.push v) >>= _) _ _ _
    refine wpAny_bind ?_
    refine wpAny_updateSeq hS' rfl (wpAny_pure ⟨plainId_quiet F.plain_extend_loop _, ih (i + 1) _ (acc.push v) _ (by omega) hlt (hst'.frame haS hcS fun b o hb e => ?_) (Heap.get?_update_self _ hS' rfl) ?_ fun s'' c' hfin hm'' hS'' => ?_⟩)
      (by rw [hsz, sizeLine_eq]; omega) (by show (acc.push v).size ≤ sizeLine + 1; rw [Array.size_push, hsz, sizeLine_eq]; omega)
    · exact (Heap.get?_update_other _ _ (Ne.symm hb)).trans e
    · rw [Array.toList_push, hacc, List.take_add_one, hv]; rfl
    · refine hR s'' c' hfin ⟨fun b o hb hbS e => hm''.1 b o hb hbS ?_, hm.2.1.trans hm''.2.1, hm''.2.2.1.trans hm.2.2.1, hm''.2.2.2.trans hm.2.2.2⟩ hS''
      exact (Heap.get?_update_other _ _ (Ne.symm hbS)).trans (hm.1 b o hb e)
end
end Mine
end
/-! part GenT -/
section
open PySem PySem.W PyProof.Rows PySem.Spec PySem.Calls
set_option maxRecDepth 100000
set_option maxHeartbeats 8000000
set_option hygiene false
namespace Mine

/-- a generator made -/
structure Made (s s' : Shared) (a : Addr) (g : Nat) (body : List Stmt) (env : Env) (binds : List (Str × Value)) : Prop where
  gen : s'.heap.IsGen a g
  code : s'.gens[g]? = some (.fresh (.func body env))
  num : g = s.gens.size
  gens : ∀ k, k ≠ g → s'.gens[k]? = s.gens[k]?
  size : s'.gens.size = g + 1
  keep : ∀ b o, s.heap.get? b = some o → s'.heap.get? b = some o
  ns : s'.heap.Ns env.locals (fun y => binds.reverse.lookup y)
  loc : env.locals = s.heap.objs.size
  above : env.locals < a
  drawn : s'.drawn = s.drawn
  os : s'.os = s.os

theorem code_gen {prog : Program} {w : World} {A : Around} {s : Shared} {h₀ : Heap} {L : Addr} {m : Str → Option Value} {K : Frag} {R : Result → Shared → Prop} {name qual : Str} {params : Arguments} {body : List Stmt} {scope : Scope} {dV kV doc pm cdv ct oc : Value} {an od : Option Addr} {osl : Array (Option Value)} {f : Addr} {args : Args} {binds : List (Str × Value)}
    (F : Fr h₀ L s.heap m) (X₀ : K.In h₀) (hlim : h₀.NoLimit)
    (ho : K.lookup f = some ⟨oc, od, .func (fnOf name qual params body scope dV kV doc pm an cdv ct), osl⟩) (hcd : codeIn K cdv qual = true) (hroom : A.depth < recursionLimit)
    (hbind : BindsTo s (fnOf name qual params body scope dV kV doc pm an cdv ct) args binds) (hloc : ∀ y ∈ binds, scope.names.lookup y.1 = some .local)
    (hco : scope.isCoroutine = false) (hgen : scope.isGenerator = true) (hk : scope.kind = .function) (hcell : ∀ x ∈ scope.names, x.2 ≠ .cell)
    (h : ∀ s' a, Made s s' a s.gens.size body (envOf qual scope s.heap.objs.size f cdv) binds → R (.ok (.ret (.ref a))) s') : codeAny (model prog w) A (.call (.ref f) args) R s := by
  have X := X₀.keeps F.keep
  refine codeAny_call_generator (fd := fnOf name qual params body scope dV kV doc pm an cdv ct) (body := body) hroom (X _ _ ho) rfl hco hgen rfl (codeRec_of X hcd) (hbind _ _ _ _ ?_)
  refine wpAny_newFunctionEnv hcell hloc (fun h₁ hns hsb => ?_) hk
  have hk₁ : ∀ b o, s.heap.get? b = some o → h₁.get? b = some o := fun b o e => hsb.extBut b o (Nat.ne_of_lt (Heap.lt_size e)) (Heap.get?_push_of_some _ e)
  refine ⟨(hlim.keeps F.keep).keeps hk₁, h _ _ ?_⟩
  refine { gen := ?_, code := ?_, num := rfl, gens := fun k hk => ?_, size := by simp, keep := fun b o e => Heap.get?_push_of_some _ (hk₁ b o e), ns := hns.push _, loc := rfl, above := ?_, drawn := rfl, os := rfl }
  · exact ⟨_, _, _, Heap.get?_push_size _ rfl, rfl, rfl, rfl⟩
  · simp; rfl
  · show (s.gens.push _)[k]? = _
    rw [Array.getElem?_push]
    rw [if_neg hk]
  · obtain ⟨o, _, _, e, _⟩ := hns
    exact Heap.lt_size e
end Mine
end
/-! part GenU -/
section
open PySem PySem.W PyProof.Rows PySem.Spec PySem.Calls
set_option maxRecDepth 100000
set_option maxHeartbeats 8000000
set_option hygiene false
namespace Mine
structure GKeep (s s' : Shared) (a : Addr) : Prop where
  gens : ∀ k, k ≠ s.gens.size → s'.gens[k]? = s.gens[k]?
  size : s'.gens.size = s.gens.size + 1
  keep : ∀ b o, s.heap.get? b = some o → s'.heap.get? b = some o
  above : s.heap.objs.size < a
  drawn : s'.drawn = s.drawn
  os : s'.os = s.os
theorem it_call {w : World} {A : Around} {h₀ : Heap} {L : Addr} {m : Str → Option Value}
   {s : Shared} {mean : ExcName → Option Value} {mg mb : Str → Option Value} {Q E : Value → Shared → Prop} {x d D : Addr} {us : List Value} {c n : Nat} {t : Tok} {TT : List (Addr × Obj)}
   (F : Fr h₀ L s.heap m) (X : (Mine.hd.heap_39 w.params).In h₀) {S : Addr} {c0 : Nat} (N : News h₀ L s.heap ((S, listOf #[] c0) :: (x, instObj 92 d) :: (d, itemsD w D t n) :: (D, listOf (List.toArray us) c) :: TT)) (hSD : S ≠ D) (T : Top Mine.hd.view_39 (looseW Mine.hd.view_39 []) mean mg mb h₀) (hroom : A.depth < recursionLimit)
   (hret : ∀ s' a oa oC, GKeep s s' a → Fr h₀ L s'.heap m → News h₀ L s'.heap ((a, oa) :: (s.heap.objs.size, oC) :: (S, listOf #[] c0) :: (x, instObj 92 d) :: (d, itemsD w D t n) :: (D, listOf (List.toArray us) c) :: TT) → oa.cls = .type "generator" →
     (∀ (s2 : Shared) c1, Fr h₀ L s2.heap m → News h₀ L s2.heap ((a, oa) :: (s.heap.objs.size, oC) :: (S, listOf #[] c1) :: (x, instObj 92 d) :: (d, itemsD w D t n) :: (D, listOf (List.toArray us) c) :: TT) → s2.gens = s'.gens →
       ∀ A' : Around, A'.handled = none → GS PySem.Challenge.rw_ad6014_01.row.prog w A' a s.gens.size s.heap.objs.size S us 0 s2) → Q (.ref a) s') :
   wpAny (model PySem.Challenge.rw_ad6014_01.row.prog w) A (call (.ref 56) [.ref x]) Q E s := by
  revert X; k_fill; intro X
  refine wpAny_call ?_
  k_dflt (refine' code_gen ?k1 ?k2 ?k3 ?kF ?k6 ?k7 ?k9 ?kB ?c2 ?c3 ?c4 ?c5 ?_; (case k1 => k_asm); (case k2 => k_asm); (case k3 => exact T.nolimit); (case kF => k_is); (case k6 => k_is); (case k7 => exact hroom); (case k9 => exact BindsTo.of_eq rfl); (case kB => exact locs rfl); (case c2 => exact rfl); (case c3 => exact rfl); (case c4 => exact rfl); (case c5 => decide))
  intro s1 a1 HM
  obtain ⟨oa, nm, qn, hoa, hca, hda, hsa⟩ := HM.gen
  obtain ⟨oC, es, ep, hoC, hrC⟩ : ∃ oC es ep, s1.heap.get? s.heap.objs.size = some oC ∧ _ := by
    obtain ⟨oC, es, ep, hoC, hr⟩ := HM.ns
    rw [HM.loc] at hoC
    exact ⟨oC, es, ep, hoC, hr⟩
  have hS := N _ List.mem_cons_self
  have hSlt : S < s.heap.objs.size := Heap.lt_size hS.1
  have hCa : s.heap.objs.size < a1 := by rw [← HM.loc]; exact HM.above
  have hle : s.heap.objs.size ≤ a1 := Nat.le_of_lt hCa
  have none0 : ∀ b, s.heap.objs.size ≤ b → h₀.get? b = none := fun b hb => by
    cases e : h₀.get? b with
    | none => rfl
    | some o => exact absurd (Heap.lt_size (F.keep _ _ e)) (Nat.not_lt.mpr hb)
  have hLs : L < s.heap.objs.size := F.ns.lt
  refine hret s1 a1 oa oC ⟨HM.gens, HM.size, HM.keep, hCa, HM.drawn, HM.os⟩ (F.keeps HM.keep) (fun p hp => ?_) hca fun s1' c1 F1' N1' hg1 A' hh => ?_
  · rcases List.mem_cons.mp hp with rfl | hp
    · exact ⟨hoa, Nat.ne_of_gt (Nat.lt_of_lt_of_le hLs hle), none0 _ hle⟩
    · rcases List.mem_cons.mp hp with rfl | hp
      · exact ⟨hoC, Nat.ne_of_gt hLs, none0 _ (Nat.le_refl _)⟩
      · exact ⟨HM.keep _ _ (N p hp).1, (N p hp).2⟩
  have hS := N1' (S, listOf #[] c1) (.tail _ (.tail _ (.head _)))
  have hcode := HM.code
  rw [← hg1] at hcode
  refine ⟨⟨oa, nm, qn, (N1' _ (.head _)).1, hca, hda, hsa⟩, T.nolimit.keeps F1'.keep, _, hcode, fun s2 hal => ⟨rfl, ?_⟩⟩
  have hCS : s.heap.objs.size ≠ S := Ne.symm (Nat.ne_of_lt hSlt)
  have hoC1 : s1'.heap.get? s.heap.objs.size = some oC := (N1' _ (.tail _ (.head _))).1
  have F2 : Fr h₀ s.heap.objs.size s2.heap _ := ⟨⟨oC, es, ep, hal _ _ hCS hoC1, hrC⟩, fun b o e => hal b o (fun hb => by rw [hb, hS.2.2] at e; cases e) (F1'.keep _ _ e), Nat.le_of_lt (Nat.lt_of_le_of_lt F.above F.ns.lt)⟩
  have N2 : News h₀ s.heap.objs.size s2.heap ((x, instObj 92 d) :: (d, itemsD w D t n) :: (D, listOf (List.toArray us) c) :: []) := fun p hp => by
    have hp' : p ∈ (x, instObj 92 d) :: (d, itemsD w D t n) :: (D, listOf (List.toArray us) c) :: TT := by
      simp only [List.mem_cons, List.not_mem_nil, or_false] at hp ⊢
      rcases hp with h | h | h <;> simp [h]
    have z := N1' p (.tail _ (.tail _ (.tail _ hp')))
    have z0 := N p (.tail _ hp')
    refine ⟨hal p.1 p.2 (fun e => ?_) z.1, Nat.ne_of_lt (Heap.lt_size z0.1), z.2.2⟩
    simp only [List.mem_cons, List.not_mem_nil, or_false] at hp
    have z1 := z.1
    rw [e, hS.1] at z1
    rcases hp with h | h | h
    · rw [h] at z1; exact absurd (congrArg Obj.cls (Option.some.inj z1)) (show Value.type "list" ≠ Value.ref 92 by decide)
    · rw [h] at z1; exact absurd (congrArg Obj.cls (Option.some.inj z1)) (show Value.type "list" ≠ Value.type "dict" by decide)
    · rw [h] at e; exact hSD e.symm
  refine seg_func ?_
  refine seg_execs_cons ?_
  refine seg_For (by intro _; rfl) ?_
  k_steps
  rename Fr _ _ _ _ => F3
  rename News _ _ _ _ => N3
  have hDD := N3 (D, listOf (List.toArray us) c) (by simp)
  have hDl : D < s2.heap.objs.size := Heap.lt_size hDD.1
  have hal1 : a1 < s2.heap.objs.size := by
    exact Heap.lt_size (hal _ _ (Nat.ne_of_gt (Nat.lt_of_lt_of_le hSlt hle)) (N1' _ (.head _)).1)
  have hCl : s.heap.objs.size < s2.heap.objs.size := F3.ns.lt
  refine wpAny_pyIter_list ⟨_, hDD.1, rfl, c, rfl⟩ ?_
  intro p
  refine' seg_loop (D := D) ?q0 ?q9 ?q1 ?q2 ?q3 ?q4 ?q5 ?c1 ?c2 ?c3 ?c4 ?c5 ?c6 ?c7 ?c8 ?c9 ?c10 ?q7 us.length 0 _ _ ?mm rfl (Nat.zero_le _) ?i1 ?i2 ?q8 ?i3
  case q8 => exact F3.ns.push _
  case q0 => exact hh
  case q9 => rfl
  case c1 => exact Nat.le_refl _
  case c2 => exact Nat.ne_of_lt hCa
  case c3 => exact hCS
  case c4 => exact Nat.ne_of_lt hCl
  case c5 => exact hDD.2.1.symm
  case c6 => exact Nat.le_of_lt hCl
  case c7 => exact Nat.ne_of_gt hal1
  case c8 => exact Nat.ne_of_gt (Nat.lt_trans hSlt hCl)
  case c9 => exact Nat.ne_of_gt hDl
  case c10 => exact hSD.symm
  case i1 => exact ⟨_, Heap.get?_push_size _ rfl, rfl, rfl⟩
  case i2 => exact ⟨_, Heap.get?_push_of_some _ hDD.1, rfl, c, rfl⟩
  case i3 => exact (Since.refl _ _ _).step fun b o _ e => Heap.get?_push_of_some _ e
  case q1 => rfl
  case q2 => rfl
  case q3 => rfl
  case q4 => rfl
  case q5 => decide
  case q7 =>
    intro s₀ s' hsn
    show Seg _ _ _ _ _ _ _ (leafOf (.ok (.ret .none))) [] s'
    exact seg_end _ ⟨rfl, rfl, hsn⟩
end Mine
end
/-! part Len -/
section
open PySem PySem.W PyProof.Rows PySem.Spec PySem.Calls
set_option maxRecDepth 100000
set_option maxHeartbeats 8000000
set_option hygiene false
namespace Mine
theorem len_call {w : World} {dp un : Nat} {gd : Option (List Code)} {cn : Str} {cs : Scope} {a : Addr} {ccd : Value} {cl : List (Str × Addr)} {outer : List Env} {A₀ : Around} {base h₀ : Heap} {L : Addr} {m : Str → Option Value}
   {s : Shared} {mean : ExcName → Option Value} {mg mb : Str → Option Value} {Q E : Value → Shared → Prop} {x d D : Addr} {us : List Value} {c n : Nat} {t : Tok} {TT : List (Addr × Obj)}
   (B : Below A₀ base outer h₀) (F : Fr h₀ L s.heap m) (X : (Mine.hd.heap_39 w.params).In h₀) (N : News h₀ L s.heap ((x, instObj 92 d) :: (d, itemsD w D t n) :: (D, listOf (List.toArray us) c) :: TT)) (T : Top Mine.hd.view_39 (looseW Mine.hd.view_39 []) mean mg mb h₀) (hk : cs.kind = .function) (hd : dp + 10 < recursionLimit) (hu : un + 200 < cLine)
   (hn : us.length < 60)
   (hret : ∀ h' tk t', Fr h₀ L h' m → News h₀ L h' ((x, instObj 92 d) :: (d, itemsD w D t n) :: (D, listOf (List.toArray us) c) :: TT) → Q (.int us.length t') { s with heap := h', toks := tk }) :
   wpAny (model PySem.Challenge.rw_ad6014_01.row.prog w) (ktrTop dp un gd cn cs L a ccd cl outer) (call (.builtin "len") [.ref x]) Q E s := by
  revert X; k_fill; intro X
  walk1
  refine wpAny_call ?_
  k_dflt ktr_enter
  k_steps
  rename Fr _ _ _ _ => Fa
  rename News _ _ _ _ => Na
  refine PySem.W.KM.len_K (n := us.length) Na (by k_mem) (by rw [List.size_toArray]) (by omega) ?_
  k_steps
  exact hret _ _ _ (by assumption) (by assumption)
end Mine
end
/-! part Lst -/
section
open PySem PySem.W PyProof.Rows PySem.Spec PySem.Calls
set_option maxRecDepth 100000
set_option maxHeartbeats 8000000
set_option hygiene false
namespace Mine
theorem lst_call {w : World} {dp un : Nat} {gd : Option (List Code)} {cn : Str} {cs : Scope} {a : Addr} {ccd : Value} {cl : List (Str × Addr)} {outer : List Env} {A₀ : Around} {base h₀ : Heap} {L : Addr} {m : Str → Option Value}
   {s : Shared} {mean : ExcName → Option Value} {mg mb : Str → Option Value} {Q E : Value → Shared → Prop} {x d D : Addr} {us : List Value} {c n : Nat} {t : Tok} {TT : List (Addr × Obj)}
   (B : Below A₀ base outer h₀) (F : Fr h₀ L s.heap m) (X : (Mine.hd.heap_39 w.params).In h₀) (N : News h₀ L s.heap ((x, instObj 92 d) :: (d, itemsD w D t n) :: (D, listOf (List.toArray us) c) :: TT)) (T : Top Mine.hd.view_39 (looseW Mine.hd.view_39 []) mean mg mb h₀) (hk : cs.kind = .function) (hd : dp + 20 < recursionLimit) (hu : un + 300 < cLine)
   (hn : us.length < 60)
   (hret : ∀ S c' h' tk, Fr h₀ L h' m → News h₀ L h' ((S, listOf (List.toArray us) c') :: (x, instObj 92 d) :: (d, itemsD w D t n) :: (D, listOf (List.toArray us) c) :: TT) → (∀ q ∈ ((x, instObj 92 d) :: (d, itemsD w D t n) :: (D, listOf (List.toArray us) c) :: TT), q.1 < S) → Q (.ref S) { s with heap := h', gens := s.gens.push .finished, toks := tk }) :
   wpAny (model PySem.Challenge.rw_ad6014_01.row.prog w) (ktrTop dp un gd cn cs L a ccd cl outer) (call (.type "list") [.ref x]) Q E s := by
  revert X; k_fill; intro X
  refine callType_codes (Q₁ := fun obj s₁ => obj = .ref s.heap.objs.size ∧ s₁ = { s with heap := s.heap.push { cls := .type "list", data := .seq #[] } }) PySem.F.called_list (PySem.F.typeCall_list_1 _) PySem.F.entry_list_init
    (code_list_new _ ⟨rfl, rfl⟩) fun obj s₁ h₁ => ?_
  obtain ⟨rfl, rfl⟩ := h₁
  have hS : (s.heap.push { cls := .type "list", data := .seq #[] }).get? s.heap.objs.size = some { cls := .type "list", data := .seq #[] } := Heap.get?_push_size _ rfl
  refine ⟨⟨_, hS, rfl⟩, PySem.F.args_list_init_2 _ _, ?_⟩
  show wpAny _ _ (do let old ← Builtin.List.listItems (.ref s.heap.objs.size); Builtin.List.listUpdate (.ref s.heap.objs.size) (fun _ => #[]); letGo old.toList.reverse; Builtin.List.listExtendWith (.ref s.heap.objs.size) (.ref x) .none) _ _ _
  refine wpAny_bind ?_
  unfold Builtin.List.listItems
  refine wpAny_bind (wpAny_seqItems hS rfl (wpAny_pure ?_))
  show wpAny _ _ (updateSeq s.heap.objs.size (fun _ => #[]) >>= fun _ => letGo (#[] : Array Value).toList.reverse >>= fun _ => Builtin.List.listExtendWith (.ref s.heap.objs.size) (.ref x) .none) _ _ _
  refine wpAny_bind (wpAny_updateSeq hS rfl ?_)
  have hS₂ := Heap.get?_update_self (Obj.mapSeq (fun _ => (#[] : Array Value))) hS rfl
  have oth : ∀ b o, b ≠ s.heap.objs.size → s.heap.get? b = some o → ((s.heap.push { cls := .type "list", data := .seq #[] }).update s.heap.objs.size (Obj.mapSeq (fun _ => (#[] : Array Value)))).get? b = some o :=
    fun b o hb e => (Heap.get?_update_other _ _ (Ne.symm hb)).trans (Heap.get?_push_of_some _ e)
  refine wpAny_bind (wpAny_letGo ?_)
  generalize hH1 : ((s.heap.push { cls := .type "list", data := .seq #[] }).update s.heap.objs.size (Obj.mapSeq (fun _ => (#[] : Array Value)))) = H1 at hS₂ oth
  have keep1 : ∀ b o, s.heap.get? b = some o → H1.get? b = some o := fun b o e => oth b o (Nat.ne_of_lt (Heap.lt_size e)) e
  have F1 : Fr h₀ L H1 m := F.keeps keep1
  obtain ⟨c0, hSc⟩ : ∃ c0, H1.get? s.heap.objs.size = some (listOf #[] c0) := ⟨_, hS₂⟩
  have N1 : News h₀ L H1 ((s.heap.objs.size, listOf #[] c0) :: (x, instObj 92 d) :: (d, itemsD w D t n) :: (D, listOf (List.toArray us) c) :: TT) := news_pushed F N keep1 hSc rfl
  clear hS₂ hS hH1 oth
  generalize hSS : s.heap.objs.size = S at *
  have hlt : ∀ q ∈ ((x, instObj 92 d) :: (d, itemsD w D t n) :: (D, listOf (List.toArray us) c) :: TT), q.1 < S := fun q hq => by rw [← hSS]; exact Heap.lt_size (N q hq).1
  have I1 : InstAt H1 x (instObj 92 d) 92 (some (itemsD w D t n)) := by k_inst
  unfold Builtin.List.listExtendWith
  refine wpAny_bind (I1.type.here ?_)
  have hSx : S ≠ x := Nat.ne_of_gt (hlt (x, instObj 92 d) (by simp))
  have h1 : Builtin.List.listSameRef (.ref S) (.ref x) = false := by simp [Builtin.List.listSameRef, hSx]
  have h2 : (Value.ref 92 == Value.type "list") = false := by rfl
  have h3 : (Value.ref 92 == Value.type "tuple") = false := by rfl
  simp only [h1, h2, h3, Bool.or_false, Bool.false_eq_true, if_false]
  refine wpAny_bind (owit_iter (f := 56) F1 X I1 (by k_is) (by k_is) ?_)
  refine it_call (S := S) (c0 := c0) F1 X N1 (Nat.ne_of_gt (hlt (D, listOf (List.toArray us) c) (by simp))) T (by show dp < recursionLimit; omega) fun s2 a1 oa oC hG F2 N2 hca hGS => ?_
  have hN0 : S < H1.objs.size := Heap.lt_size hSc
  have hT2 : s2.TypeIs (.ref a1) "generator" := ⟨oa, (N2 _ (.head _)).1, hca⟩
  have hF0 : ∀ b o, h₀.get? b = some o → b < S := fun b o e => by rw [← hSS]; exact Heap.lt_size (F.keep _ _ e)
  have hLS : L < S := by rw [← hSS]; exact F.ns.lt
  have hcst : ∃ o, h₀.get? cStatics = some o := by
    obtain ⟨_, ⟨o, _, _, e, _⟩, _⟩ := T.nolimit
    exact ⟨o, e⟩
  obtain ⟨ocs, hocs⟩ := hcst
  have hcS : cStatics < S := hF0 _ _ hocs
  unfold OwitIt
  refine wpAny_specialOf hT2 slot_gen_next.lookup ?_
  dsimp only
  -- the loop
  have loop : ∀ (s3 : Shared) (c1 : Nat), Fr h₀ L s3.heap m → News h₀ L s3.heap ((a1, oa) :: (H1.objs.size, oC) :: (S, listOf #[] c1) :: (x, instObj 92 d) :: (d, itemsD w D t n) :: (D, listOf (List.toArray us) c) :: TT) → s3.gens = s2.gens → s3.drawn = s2.drawn → s3.os = s2.os →
      codeAny (model PySem.Challenge.rw_ad6014_01.row.prog w) (ktrTop dp un gd cn cs L a ccd cl outer).in1 (.builtin "list.extend.loop" ⟨[.ref S, .ref a1, .none], []⟩) (wants (fun r s₂ => r = Value.none ∧ Q (Value.ref S) s₂) E) s3 := by
    intro s3 c1 F3 N3 g3 d3 o3
    have hS3 := (N3 (S, listOf #[] c1) (by simp)).1
    refine extend_loop_G (N := H1.objs.size) (g := s.gens.size) (us := us) rfl (by show dp < recursionLimit; omega) (Nat.lt_trans hcS hN0) (Nat.ne_of_gt (Nat.lt_trans hN0 hG.above)) (Nat.ne_of_lt hcS) hN0 (by omega) us.length 0 s3 #[] c1 (Nat.sub_zero _) (Nat.zero_le _) (hGS s3 c1 F3 N3 g3 _ rfl) hS3 rfl fun s4 c4 hfin hm hS4 => ?_
    have k4 : ∀ b o, b < S → s3.heap.get? b = some o → s4.heap.get? b = some o := fun b o hb e => hm.1 b o (Nat.lt_trans hb hN0) (Nat.ne_of_lt hb) e
    have hgens : s4.gens = s.gens.push .finished := by
      have hsz : s4.gens.size = s.gens.size + 1 := by rw [hm.2.1.1, g3, hG.size]
      refine Array.ext_getElem? fun k => ?_
      by_cases hkg : k = s.gens.size
      · subst hkg
        rw [hfin]; simp
      · rw [hm.2.1.2 k hkg, g3, hG.gens k hkg, Array.getElem?_push, if_neg hkg]
    have e4 : s4 = { s with heap := s4.heap, gens := s.gens.push .finished, toks := s4.toks } := by
      have hd4 : s4.drawn = s.drawn := hm.2.2.1.trans (d3.trans hG.drawn)
      have ho4 : s4.os = s.os := hm.2.2.2.trans (o3.trans hG.os)
      obtain ⟨hp4, g4, d4, t4, o4⟩ := s4
      simp only at hgens hd4 ho4
      rw [hgens, hd4, ho4]
    rw [e4]
    refine ⟨rfl, hret S c4 _ _ ⟨F3.ns.at' fun o e => k4 _ o hLS e, fun b o e => k4 b o (hF0 b o e) (F3.keep b o e), F3.above⟩ (fun p hp => ?_) hlt⟩
    rcases List.mem_cons.mp hp with rfl | hp
    · exact ⟨hS4, (N3 (S, listOf #[] c1) (by simp)).2⟩
    · have z := N3 p (.tail _ (.tail _ (.tail _ hp)))
      exact ⟨k4 _ _ (hlt p hp) z.1, z.2⟩
  have I2 : InstAt s2.heap x (instObj 92 d) 92 (some (itemsD w D t n)) := by k_inst
  refine wpAny_bind (wpAny_holding ?_)
  unfold Builtin.List.listLengthHint
  refine wpAny_bind (wpAny_bind (I2.type.here ((looks_findIn (X.keeps F2.keep) (name := "__len__") (by k_is)).here ?_)))
  dsimp only
  refine wpAny_ite_split (fun h => Bool.noConfusion (show false = true from h)) (fun _ => ?_)
  refine wpAny_ite_split (fun _ => ?_) (fun h => absurd rfl h)
  refine wpAny_bind (wpAny_rule ?_)
  have N2' : News h₀ L s2.heap ((x, instObj 92 d) :: (d, itemsD w D t n) :: (D, listOf (List.toArray us) c) :: ((a1, oa) :: (H1.objs.size, oC) :: (S, listOf #[] c0) :: TT)) := fun p hp => N2 p (by
    simp only [List.mem_cons] at hp ⊢
    rcases hp with h | h | h | h | h | h | h <;> simp [h])
  refine wpAny_bind (wpAny_attempt (len_call (un := un + 2) B F2 X N2' T hk (by show dp + 10 < recursionLimit; omega) (by show un + 2 + 200 < cLine; omega) hn fun h3 tk3 t3 F3 N3 => ?_))
  dsimp only
  refine wpAny_bind (wpAny_pure ?_)
  dsimp only
  have hlong : Builtin.List.listTooLong ((us.length : Nat) : Int).toNat = false := by
    unfold Builtin.List.listTooLong
    rw [decide_eq_false_iff_not, sizeLine_eq]
    simp; omega
  rw [hlong]
  simp only [Bool.false_eq_true, if_false]
  refine wpAny_pure ?_
  have N3' : News h₀ L h3 ((a1, oa) :: (H1.objs.size, oC) :: (S, listOf #[] c0) :: (x, instObj 92 d) :: (d, itemsD w D t n) :: (D, listOf (List.toArray us) c) :: TT) := fun p hp => N3 p (by
    simp only [List.mem_cons] at hp ⊢
    rcases hp with h | h | h | h | h | h | h <;> simp [h])
  refine wpAny_ite_split (fun _ => ?_) (fun _ => wpAny_pure ⟨plainId_quiet PySem.F.plain_extend_loop _, loop _ c0 F3 N3' rfl rfl rfl⟩)
  refine wpAny_bind (wpAny_rule ?_)
  refine wpAny_bind ?_
  show wpAny _ _ (updateSeq S (·.push .none) >>= fun _ => updateSeq S (·.pop)) _ _ _
  have hS3 := N3' (S, listOf #[] c0) (by simp)
  refine wpAny_bind (wpAny_updateSeq hS3.1 rfl ?_)
  have hS4 := Heap.get?_update_self (Obj.mapSeq (·.push Value.none)) hS3.1 rfl
  refine wpAny_updateSeq (hz := by seq_fits) hS4 rfl ?_
  have hS5 := Heap.get?_update_self (Obj.mapSeq (·.pop)) hS4 rfl
  have oth : ∀ b o, b ≠ S → h3.get? b = some o → ((h3.update S (Obj.mapSeq (·.push Value.none))).update S (Obj.mapSeq (·.pop))).get? b = some o :=
    fun b o hb e => (Heap.get?_update_other _ _ (Ne.symm hb)).trans ((Heap.get?_update_other _ _ (Ne.symm hb)).trans e)
  obtain ⟨c5, hS6⟩ : ∃ c5, ((h3.update S (Obj.mapSeq (·.push Value.none))).update S (Obj.mapSeq (·.pop))).get? S = some (listOf #[] c5) := ⟨_, hS5⟩
  refine wpAny_pure ⟨plainId_quiet PySem.F.plain_extend_loop _, loop _ c5 ⟨F3.ns.at' fun o e => oth _ o (Nat.ne_of_lt hLS) e, fun b o e => oth b o (Nat.ne_of_lt (hF0 b o e)) (F3.keep b o e), F3.above⟩ (fun p hp => ?_) rfl rfl rfl⟩
  by_cases hpS : p.1 = S
  · rcases List.mem_cons.mp hp with rfl | hp
    · exact absurd hpS (Nat.ne_of_gt (Nat.lt_trans hN0 hG.above))
    · rcases List.mem_cons.mp hp with rfl | hp
      · exact absurd hpS (Nat.ne_of_gt hN0)
      · rcases List.mem_cons.mp hp with rfl | hp
        · exact ⟨hS6, hS3.2⟩
        · exact absurd hpS (Nat.ne_of_lt (hlt p hp))
  · have z := N3' p (by
      rcases List.mem_cons.mp hp with rfl | hp
      · simp
      · rcases List.mem_cons.mp hp with rfl | hp
        · simp
        · rcases List.mem_cons.mp hp with rfl | hp
          · exact absurd rfl hpS
          · exact sub3 p hp)
    exact ⟨oth _ _ hpS z.1, z.2⟩
end Mine
end
/-! part Get -/
section
open PySem PySem.W PyProof.Rows PySem.Spec PySem.Calls
set_option maxRecDepth 100000
set_option maxHeartbeats 8000000
set_option hygiene false
namespace Mine
local macro_rules | `(tactic| walk_at "leaving ref") => `(tactic| (refine' leave_newS ?k1 ?k0 ?k2 ?k3 ?_; (case k0 => assumption); (case k2 => assumption); (case k1 => assumption); (case k3 => k_asm); k_whole; intro h' S' R' U'; (try dsimp only at S' R' U' ⊢)))
theorem get_none {w : World} {dp un : Nat} {gd : Option (List Code)} {cn : Str} {cs : Scope} {a : Addr} {ccd : Value} {cl : List (Str × Addr)} {outer : List Env} {A₀ : Around} {base h₀ : Heap} {L : Addr} {m : Str → Option Value}
   {s : Shared} {mean : ExcName → Option Value} {mg mb : Str → Option Value} {Q E : Value → Shared → Prop} {x d D : Addr} {c n : Nat} {t u : Tok} {TT : List (Addr × Obj)}
   (B : Below A₀ base outer h₀) (F : Fr h₀ L s.heap m) (X : (Mine.hd.heap_39 w.params).In h₀) (N : News h₀ L s.heap ((x, instObj 92 d) :: (d, itemsD w D t n) :: (D, listOf (List.toArray []) c) :: TT)) (T : Top Mine.hd.view_39 (looseW Mine.hd.view_39 []) mean mg mb h₀) (hk : cs.kind = .function) (hd : dp + 10 < recursionLimit) (hu : un + 200 < cLine)
   (hexc : ∀ g' e h' tk, Fr h₀ L g' m → g'.UpToSlots h' → RaisedSN base g' (envX cn cs L a ccd cl :: outer) e (.type "IndexError") ((x, instObj 92 d) :: (d, itemsD w D t n) :: (D, listOf (List.toArray []) c) :: TT) h' → E (.ref e) { s with heap := h', toks := tk }) :
   wpAny (model PySem.Challenge.rw_ad6014_01.row.prog w) (ktrTop dp un gd cn cs L a ccd cl outer) (call (.ref 42) [.ref x, .int 0 u]) Q E s := by
  revert X; k_fill; intro X
  refine wpAny_call ?_
  k_dflt ktr_enter
  k_steps
  exact hexc _ _ _ _ (by assumption) (by assumption) (by assumption)

theorem get_some {w : World} {dp un : Nat} {gd : Option (List Code)} {cn : Str} {cs : Scope} {a : Addr} {ccd : Value} {cl : List (Str × Addr)} {outer : List Env} {A₀ : Around} {base h₀ : Heap} {L : Addr} {m : Str → Option Value}
   {s : Shared} {mean : ExcName → Option Value} {mg mb : Str → Option Value} {Q E : Value → Shared → Prop} {x d D : Addr} {us : List Value} {c n : Nat} {t u : Tok} {k : Int} {v : Value} {TT : List (Addr × Obj)}
   (B : Below A₀ base outer h₀) (F : Fr h₀ L s.heap m) (X : (Mine.hd.heap_39 w.params).In h₀) (N : News h₀ L s.heap ((x, instObj 92 d) :: (d, itemsD w D t n) :: (D, listOf (List.toArray us) c) :: TT)) (T : Top Mine.hd.view_39 (looseW Mine.hd.view_39 []) mean mg mb h₀) (hk : cs.kind = .function) (hd : dp + 10 < recursionLimit) (hu : un + 200 < cLine)
   (hn : us.length < 60) (hkv : (k = 0 ∧ us[0]? = some v) ∨ (k = -1 ∧ us ≠ [] ∧ us[us.length - 1]? = some v))
   (hret : ∀ h' tk, Fr h₀ L h' m → News h₀ L h' ((x, instObj 92 d) :: (d, itemsD w D t n) :: (D, listOf (List.toArray us) c) :: TT) → Q v { s with heap := h', toks := tk }) :
   wpAny (model PySem.Challenge.rw_ad6014_01.row.prog w) (ktrTop dp un gd cn cs L a ccd cl outer) (call (.ref 42) [.ref x, .int k u]) Q E s := by
  revert X; k_fill; intro X
  refine wpAny_call ?_
  k_dflt ktr_enter
  k_steps
  rename Fr _ _ _ _ => Fa
  rename News _ _ _ _ => Na
  rcases hkv with ⟨rfl, hv⟩ | ⟨rfl, hne, hv⟩
  · refine kim_list Na (.tail _ (.tail _ (.head _))) rfl rfl (by decide) (by decide) hv ?_
    k_steps
    exact hret _ _ (by assumption) (by assumption)
  · have hpos : 0 < us.length := List.length_pos_iff.mpr hne
    refine kim_back Na (.tail _ (.tail _ (.head _))) rfl rfl (by decide) (by omega) (by decide) (x := v) (by rw [← hv]; congr 1; omega) ?_
    k_steps
    exact hret _ _ (by assumption) (by assumption)
end Mine
end
/-! part Cat -/
section
open PySem PySem.W PyProof.Rows PySem.Spec PySem.Calls
set_option maxRecDepth 100000
namespace Mine
section
variable {prog : Program} {w : World} {A₀ A : Around} {s : Shared} {base h₀ : Heap} {L : Addr} {m : Str → Option Value} {env : Env} {news : List (Addr × Obj)} {K : Frag} {p : Program} {loose : List Str} {mean : ExcName → Option Value} {mg mb : Str → Option Value}
    {R : Result → Shared → Prop} {name qual : Str} {params : Arguments} {body : List Stmt} {scope : Scope} {dV kV doc pm cdv ct oc : Value} {an od : Option Addr} {osl : Array (Option Value)} {f : Addr} {args : Args} {binds : List (Str × Value)}
/-- a def that catches, called from the law's own frame, which may hold cells -/
theorem enter_catch (B : Below A₀ base [] h₀) (F : Fr h₀ L s.heap m) (X₀ : K.In h₀) (N : News h₀ L s.heap news) (T : Top p loose mean mg mb h₀) (hA : A.frames = some [env]) (hf : env.frame = some L) (hke : env.scope.kind = .function)
    (ho : K.lookup f = some ⟨oc, od, .func (fnOf name qual params body scope dV kV doc pm an cdv ct), osl⟩) (hcd : codeIn K cdv qual = true) (hroom : A.depth < recursionLimit)
    (hbind : BindsTo s (fnOf name qual params body scope dV kV doc pm an cdv ct) args binds) (hloc : ∀ y ∈ binds, scope.names.lookup y.1 = some .local)
    (hco : scope.isCoroutine = false) (hgen : scope.isGenerator = false) (hk : scope.kind = .function) (hcell : ∀ x ∈ scope.names, x.2 ≠ .cell)
    (h : ∀ g L' h₁, Fr h₀ L g m → Fr g L' h₁ (fun y => binds.reverse.lookup y) → News g L' h₁ news → Below A base [env] g → K.In g → Top p loose mean mg mb g → KtsDicts [L] g →
      wpAny (model prog w) (A.deeper (envOf qual scope L' f cdv)) (execs body (envOf qual scope L' f cdv))
        (fun fl s' => LeaveS0 [L] h₀ L m g R (match fl with | .ret v => v | _ => .none) s')
        (fun e s' => wpAny (model prog w) (A.deeper (envOf qual scope L' f cdv)) (leaving (envOf qual scope L' f cdv) e) (fun _ s'' => R (.error e) s'') (fun e' s'' => R (.error e') s'') s')
        { s with heap := h₁, toks := s.toks + binds.length }) : codeAny (model prog w) A (.call (.ref f) args) R s := by
  obtain ⟨FG, BG, st, _⟩ := groundX (R := R) B F N hA hf hke
  have X := X₀.keeps F.keep
  obtain ⟨oL, es, ep, hLg, hLd, hLk⟩ := id FG.ns
  have nL : h₀.get? L = none := by
    cases e : h₀.get? L with
    | none => rfl
    | some o => exact absurd (Heap.lt_size e) (Nat.not_lt.mpr F.above)
  refine codeAny_call_def (fd := fnOf name qual params body scope dV kV doc pm an cdv ct) (body := body) (binds := binds) hroom (X _ _ ho) rfl (T.nolimit.keeps F.keep) (codeRec_of X hcd) rfl hbind hcell hloc (fun h₁ hns hk₁ => ?_) hco hgen hk
  have run := h _ s.heap.objs.size h₁ FG ⟨hns, fun b o e => hk₁ b o (of_hideAll _ e), Nat.le_of_eq (hideAll_size _ _)⟩
    (fun q hq => ⟨hk₁ _ _ (N q hq).1, Nat.ne_of_lt (Heap.lt_size (N q hq).1), hideAll_none _ (List.mem_map_of_mem hq)⟩) BG (X₀.keeps st) (T.keeps st) (fun b hb => by
      rw [List.mem_singleton.mp hb]; exact ⟨oL, es, ep, hLg, hLd⟩)
  refine wpAny_mono run (fun fl s' hl => ?_) fun _ _ y => y
  obtain ⟨g', L', m', news', T', F', N', k⟩ := hl
  obtain ⟨sl, hs⟩ := T'.frame L oL hLg (List.mem_singleton.mpr rfl)
  have up : ∀ b o, h₀.get? b = some o → g'.get? b = some o := fun b o e => T'.other b o (st b o e) fun hb => by
    rw [List.mem_singleton.mp hb, nL] at e; cases e
  refine k ⟨⟨_, es, ep, F'.keep _ _ hs, hLd, hLk⟩, fun b o e => F'.keep b o (up b o e), F.above⟩ fun q hq => ⟨(N' q hq).1, fun hqL => ?_, ?_⟩
  · have z := (N' q hq).2.2
    rw [hqL, hs] at z; cases z
  · cases e : h₀.get? q.1 with
    | none => rfl
    | some o =>
      have z := (N' q hq).2.2
      rw [up _ _ e] at z; cases z
end
section
variable {prog : Program} {w : World} {A₀ : Around} {E : Value → Shared → Prop} {s' : Shared} {h₀ h : Heap} {outer : List Env} {L e : Addr} {m : Str → Option Value} {env : Env} {news : List (Addr × Obj)} {n x : Str} {b₀ : Stmt} {suite : List Stmt} {pos np : Pos} {rest : List ExceptHandler} {Q : Flow → Shared → Prop}
  {p : Program} {loose : List Str} {mg mb : Str → Option Value} {X T' : String}
/-- an exception of a callee, caught in the law's own frame -/
theorem land_top (K : Below A₀ h₀ outer h₀) (F : Fr h₀ L h m) (hsm : h.UpToSlots s'.heap) (R : RaisedN h₀ (env :: outer) e (.type X) news s'.heap) (hf : env.frame = some L)
    (hexc : isSubtype (.type T') (.type "BaseException") = pure true) (hnt : isSubtype (.type ((Manifest.find? T').elim "type" fun y => y.metatype)) (.type "tuple") = pure false) (hsub : isSubtype (.type X) (.type T') = pure true)
    (k : ∀ h', Fr h₀ L h' m → News h₀ L h' news →
      wpAny (model prog w) ((A₀.deeper env).mark (some (.ref e))) (execs (b₀ :: suite) env) Q E { s' with heap := h' })
    (ld : ∀ (A' : Around) (E1 : Value → Shared → Prop) (Q1 : Value → Shared → Prop) (s₁ : Shared), Fr h₀ L s₁.heap m → Q1 (.type T') s₁ → wpAny (model prog w) A' (eval (.Name x np) env) Q1 E1 s₁)
    (hE : PassesOwnAt (model prog w) ((A₀.deeper env).mark (some (.ref e))) (A₀.deeper env) env E) :
    wpAny (model prog w) (A₀.deeper env) (noteFrame (.ref e) env)
      (fun _ s₂ => wpAny (model prog w) (A₀.deeper env) (setFlight (.ref e) none) (fun _ s₃ =>
        wpAny (model prog w) (A₀.deeper env) (handleBy (.ref e) env (.ExceptHandler (some (.Name x np)) none (b₀ :: suite) pos :: rest)) Q E s₃) E s₂) E s' := by
  obtain ⟨B, a0, hB, hl, hfl⟩ := R
  have hL : B.get? L = none := by
    obtain ⟨_, ⟨L', _, hf', hn', _⟩, _⟩ := hfl.2.2.1
    obtain rfl : L = L' := Option.some.inj (hf.symm.trans hf')
    exact hn'
  refine wpAny_looks_onW (Around.frames_deeper K.stack) hf hfl fun h₄ held₄ up₄ => ?_
  refine wpAny_landsW held₄ fun h₅ held₅ up₅ => ?_
  have b₅ := flyingW_base hB held₅
  have up5 := hsm.trans (up₄.trans up₅)
  obtain ⟨ob, hob, hobc⟩ := b₅.there
  refine wpAny_handleBy_builtin (X := X) (T := T') (b := true) hexc hnt hsub (ld _ _ _ _ (F.of_stays b₅.1 up5) ⟨rfl, ⟨ob, hob, hobc⟩, ?_⟩)
  refine lands_againW held₅ fun h₆ held₆ up₆ => ?_
  exact wpAny_passesOwnAt hE (k h₆ (F.of_stays (flyingW_base hB held₆).1 (up5.trans up₆)) fun q hq => ⟨held₆.1 _ _ (hl q hq).1, (fun z => by
    have z' := (hl q hq).1
    rw [z, hL] at z'
    cases z'), (hl q hq).2⟩)
end
/-- row == row -/
theorem eq_rowsN {prog : Program} {w : World} {A : Around} {E : Value → Shared → Prop} {s : Shared} {h₀ : Heap} {L : Addr} {news : List (Addr × Obj)} {Q : Value → Shared → Prop} {v u : Value} {r q : List Int} (N : News h₀ L s.heap news) (hv : RowIn news v r) (hu' : RowIn news u q) (hu : A.units + 64 < cLine) (h : Q (.bool (decide (r = q))) s) :
    wpAny (model prog w) A (compareOp .Eq v u) Q E s := by
  obtain ⟨as, ra⟩ := kqd_in N 8 hv.dat (rowDat_ok r)
  obtain ⟨bs, rb⟩ := kqd_in N 8 hu'.dat (rowDat_ok q)
  have la := kqd_lay 8 _ (rowDat_ok r)
  have lb := kqd_lay 8 _ (rowDat_ok q)
  have e : PyData.eqv (kqdP (rowDat r)) (kqdP (rowDat q)) = decide (r = q) := by
    have z := (kqd_eqv 8 _ _ 8 (rowDat_ok r) (rowDat_ok q)).trans rowDat_inj
    by_cases hq : r = q
    · rw [decide_eq_true hq]; exact z.mpr hq
    · rw [decide_eq_false hq]; exact Bool.eq_false_iff.mpr fun x => hq (z.mp x)
  refine eq_dataH ra rb ?_ ?_ hu (by rw [e]; exact h)
  · unfold SeqAt.shaped; rw [la.1, Bool.true_and]; exact decide_eq_true (Nat.le_trans la.2 (by decide))
  · unfold SeqAt.shaped; rw [lb.1, Bool.true_and]; exact decide_eq_true (Nat.le_trans lb.2 (by decide))
end Mine
end
/-! part Agr -/
section
open PySem PySem.W PyProof.Rows PySem.Spec PySem.Calls
set_option maxRecDepth 100000
set_option maxHeartbeats 8000000
set_option hygiene false
namespace Mine
local macro_rules | `(tactic| walk_at "call type:list") => `(tactic| ((with_reducible show wpAny _ _ (call (Value.type "list") [Value.ref _]) _ _ _); refine Hold.keep ?_))
local macro_rules | `(tactic| walk_at "call builtin:len") => `(tactic| ((with_reducible show wpAny _ _ (call (Value.builtin "len") [Value.ref _]) _ _ _); refine Hold.keep ?_))

local macro_rules | `(tactic| walk_at "compareOp NotEq ref ref") => `(tactic| ((with_reducible show wpAny _ _ (compareOp CmpOp.NotEq (Value.ref _) (Value.ref _)) _ _ _); refine Hold.keep ?_))
local macro_rules | `(tactic| walk_at "compareOp Eq ref ref") => `(tactic| ((with_reducible show wpAny _ _ (compareOp CmpOp.Eq (Value.ref _) (Value.ref _)) _ _ _); refine Hold.keep ?_))
local macro_rules | `(tactic| walk_at "call ref") => `(tactic| ((with_reducible show wpAny _ _ (call (Value.ref _) _) _ _ _); refine Hold.keep ?_))

theorem agr_call {w : World} {dp un : Nat} {gd : Option (List Code)} {cn : Str} {cs : Scope} {a : Addr} {ccd : Value} {cl : List (Str × Addr)} {A₀ : Around} {base h₀ : Heap} {L : Addr} {m : Str → Option Value}
   {s : Shared} {mean : ExcName → Option Value} {mg mb : Str → Option Value} {Q E : Value → Shared → Prop} {x d D M : Addr} {us ms : List Value} {c n cm : Nat} {t : Tok} {ts : List (List Int)} {TT : List (Addr × Obj)}
   (B : Below A₀ base [] h₀) (XB : (Mine.hd.heap_39 w.params).In base) (TB : Top Mine.hd.view_39 (looseW Mine.hd.view_39 []) mean mg mb base) (F : Fr h₀ L s.heap m) (X : (Mine.hd.heap_39 w.params).In h₀) (N : News h₀ L s.heap ((x, instObj 92 d) :: (d, itemsD w D t n) :: (D, listOf (List.toArray us) c) :: (M, listOf (List.toArray ms) cm) :: TT)) (T : Top Mine.hd.view_39 (looseW Mine.hd.view_39 []) mean mg mb h₀) (hk : cs.kind = .function) (hd : dp + 40 < recursionLimit) (hu : un + 500 < cLine)
   (hn : ts.length < 60) (hus : F2 (RowIn TT) us ts) (hms : F2 (RowIn TT) ms ts)
   (hret : ∀ h' tk, Fr h₀ L h' m → News h₀ L h' ((x, instObj 92 d) :: (d, itemsD w D t n) :: (D, listOf (List.toArray us) c) :: (M, listOf (List.toArray ms) cm) :: TT) → Q (.bool true) { s with heap := h', gens := s.gens.push .finished, toks := tk }) :
   wpAny (model PySem.Challenge.rw_ad6014_01.row.prog w) (ktrTop dp un gd cn cs L a ccd cl []) (call (.ref 122) [.ref x, .ref M]) Q E s := by
  revert X; k_fill; intro X
  refine wpAny_call ?_
  k_dflt (refine' enter_catch ?k1 ?k2 ?k3 ?k4 ?k5 ?kA ?kF ?kK ?k6 ?k7 ?k8 ?k9 ?kB ?c2 ?c3 ?c4 ?c5 ?_; (case kA => exact rfl); (case kF => exact rfl); (case kK => exact hk); (case k1 => exact B); (case k2 => exact F); (case k3 => exact X); (case k4 => exact N); (case k5 => exact T); (case k6 => k_is); (case k7 => k_is); (case k8 => ktr_room); (case k9 => exact BindsTo.of_eq rfl); (case kB => exact locs rfl); (case c2 => exact rfl); (case c3 => exact rfl); (case c4 => exact rfl); (case c5 => decide))
  intro g' L' h' FG' F' N' B' X' T' D'
  k_steps
  refine Hold.out ?_
  rename Fr _ _ _ _ => Fa
  rename News _ _ _ _ => Na
  rename Below _ _ _ _ => Ba
  rename Frag.In _ _ => Xa
  rename Top _ _ _ _ _ _ => Ta
  have hlu := hus.length
  have hlm := hms.length
  refine lst_call Ba Fa Xa Na Ta rfl (by show dp + 1 + 20 < recursionLimit; omega) (by show un + 3 + 300 < cLine; omega) (by omega) fun S c' h1 tk1 Fb Nb hlt => ?_
  k_lt hlt
  k_steps
  refine Hold.out ?_
  rename Fr _ _ _ _ => Fc
  rename News _ _ _ _ => Nc
  refine ne_listsN Nc (by k_mem) (by k_mem) (F2.rows sub5 hus) (F2.rows sub5 hms) (by show (Around.deeper _ _).units + 64 < cLine; simp only [Around.deeper_units, ktrTop]; omega) ?_
  have hdt : decide (ts = ts) = true := decide_eq_true rfl
  rw [hdt]
  k_steps
  refine Hold.out ?_
  rename Fr _ _ _ _ => Fd
  rename News _ _ _ _ => Nd
  have Nd' := Nd
  refine len_call Ba Fd Xa (cut1 Nd) Ta rfl (by show dp + 1 + 10 < recursionLimit; omega) (by show un + 3 + 200 < cLine; omega) (by omega) fun h2 tk2 t2 Fe Ne => ?_
  k_steps
  refine Hold.out ?_
  rename Fr _ _ _ _ => Ff
  rename News _ _ _ _ => Nf
  refine PySem.W.KM.len_K (n := ms.length) Nf (by k_mem) (by rw [List.size_toArray]) (by omega) ?_
  have hlum : ms.length = us.length := by omega
  rw [hlum]
  k_steps
  · exfalso; simp_all
  refine Hold.out ?_
  rename Fr _ _ _ _ => Fg
  rename News _ _ _ _ => Ng
  refine eq_listsN Ng (by k_mem) (by k_mem) (F2.rows sub5 hms) .nil (by show (Around.deeper _ _).units + 64 < cLine; simp only [Around.deeper_units, ktrTop]; omega) ?_
  by_cases hts : ts = []
  · have hdf : decide (ts = []) = true := decide_eq_true hts
    rw [hdf]
    k_steps
    refine Hold.out ?_
    subst hts
    cases us with
    | cons u us => simp at hlu
    | nil =>
    rename Fr _ _ _ _ => Fh
    rename News _ _ _ _ => Nh
    refine get_none (un := un + 3 + 1) Ba Fh Xa (cut1 Nh) Ta rfl (by show dp + 1 + 10 < recursionLimit; omega) (by omega) fun g' e h3 tk3 Fi hup hR => ?_
    refine caught_SN0 (T' := "IndexError") hR Fi Ba hup XB TB D' KtsTurn.refl (by k_is) PyProof.Rows.Boot.«IndexError» (by decide) PySem.F.isExc_IndexError PySem.F.notTuple_IndexError (by rw [isSubtype_type]; kernel_rfl) fun h4 g4 kT Fj Nj Kj Xj Tj Dj => ?_
    have kT' : KtsTurn [L] _ g4 := kT
    k_steps
    exact hret _ _ (by assumption) (by assumption)
  · have hdf : decide (ts = []) = false := decide_eq_false hts
    rw [hdf]
    k_steps
    refine Hold.out ?_
    rename Fr _ _ _ _ => Fh
    rename News _ _ _ _ => Nh
    obtain ⟨r, rs, rfl⟩ : ∃ r rs, ts = r :: rs := by cases ts with | nil => exact absurd rfl hts | cons r rs => exact ⟨r, rs, rfl⟩
    obtain ⟨u0, hu0, hu0r⟩ := hus.getR (i := 0) (b := r) rfl
    obtain ⟨m0, hm0, hm0r⟩ := hms.getR (i := 0) (b := r) rfl
    refine get_some (un := un + 3 + 1) (k := 0) (v := u0) Ba Fh Xa (cut1 Nh) Ta rfl (by show dp + 1 + 10 < recursionLimit; omega) (by omega) (by omega) (.inl ⟨rfl, hu0⟩) fun h3 tk3 Fi Ni => ?_
    k_steps
    rename Fr _ _ _ _ => Fk
    rename News _ _ _ _ => Nk
    refine kim_list Nk (by k_mem) rfl rfl (by decide) (by decide) hm0 ?_
    k_steps
    rename Fr _ _ _ _ => Fl
    rename News _ _ _ _ => Nl
    refine eq_rowsN Nl (hu0r.mono sub4) (hm0r.mono sub4) (by show (Around.deeper _ _).units + 64 < cLine; simp only [Around.deeper_units, ktrTop]; omega) ?_
    have hrr : decide (r = r) = true := decide_eq_true rfl
    rw [hrr]
    k_steps
    refine Hold.out ?_
    rename Fr _ _ _ _ => Fm
    rename News _ _ _ _ => Nm
    have hll : ((r :: rs)[(r :: rs).length - 1]?) = some ((r :: rs).getLast (by simp)) := by rw [List.getLast_eq_getElem]; simp
    obtain ⟨u1, hu1, hu1r⟩ := hus.getR hll
    obtain ⟨m1, hm1, hm1r⟩ := hms.getR hll
    refine get_some (un := un + 3 + 1) (k := -1) (v := u1) Ba Fm Xa Nm Ta rfl (by show dp + 1 + 10 < recursionLimit; omega) (by omega) (by omega) (.inr ⟨rfl, by intro h; rw [h] at hlu; simp at hlu, by rw [hlu]; exact hu1⟩) fun h5 tk5 Fn Nn => ?_
    k_steps
    rename Fr _ _ _ _ => Fo
    rename News _ _ _ _ => No
    have hmpos : 0 < ms.length := by rw [hlm]; simp
    refine kim_back No (.tail _ (.tail _ (.tail _ (.head _)))) rfl rfl (by decide) (by omega) (by decide) (x := m1) (by rw [← hm1, ← hlm]; congr 1; omega) ?_
    k_steps
    rename Fr _ _ _ _ => Fp
    rename News _ _ _ _ => Np
    refine eq_rowsN Np (hu1r.mono sub4) (hm1r.mono sub4) (by show (Around.deeper _ _).units + 64 < cLine; simp only [Around.deeper_units, ktrTop]; omega) ?_
    have hr2 : decide ((r :: rs).getLast (by simp) = (r :: rs).getLast (by simp)) = true := decide_eq_true rfl
    rw [hr2]
    k_steps
    exact hret _ _ (by assumption) (by assumption)
end Mine
end
/-! part Row -/
section
open PySem PySem.W PyProof.Rows PySem.Spec PySem.Calls
set_option maxRecDepth 100000
set_option maxHeartbeats 8000000
set_option hygiene false
namespace Mine

local macro_rules | `(tactic| walk_at "m enter") => `(tactic| (refine' code_defC ?k1 ?k2 ?k3 ?k4 ?k5 ?kA ?kF ?kK ?k6 ?k7 ?k8 ?k9 ?kB ?kD ?_ ?c2 ?c3 ?c4; (case kA => exact rfl); (case kF => exact rfl); (case kK => first | exact rfl | assumption); (case k1 => k_asm); (case k2 => k_asm); (case k3 => k_asm); (case k4 => k_asm); (case k5 => k_asm); (case k6 => k_is); (case k7 => k_is); (case k8 => ktr_room); (case k9 => first | exact BindsTo.of_eq rfl | exact binds_K (by k_in) rfl (by k_is) rfl rfl rfl | fail "k_enter: no rule for these arguments"); (case kB => exact rfl); (case kD => decide +kernel); (case c2 => exact rfl); (case c3 => exact rfl); (case c4 => exact rfl); k_whole; intro g' L' h' tk' cells' FG' F' N' Y' B' X' T' l1; (try k_lt l1); k_cells Y'; (try simp only [List.cons_append, List.nil_append] at N')))

theorem pow16_ne (k : Nat) : ((16 : Int) ^ k) ≠ 0 := Int.ne_of_gt (Int.pow_pos (by decide))
theorem pow16_log {k : Int} (h : k < 4) : ((16 : Int) ^ k.toNat).natAbs.log2 < 9000 := by
  have h' : k.toNat < 4 := by omega
  generalize k.toNat = j at h'
  match j, h' with
  | 0, _ => decide
  | 1, _ => decide +kernel
  | 2, _ => decide +kernel
  | 3, _ => decide +kernel
local macro_rules | `(tactic| walk_at "binaryOp FloorDiv int int") => `(tactic| (k_here; (with_reducible show wpAny _ _ (binaryOp _ (Value.int _ _) (Value.int ((16:Int) ^ _) _)) _ _ _); (with_reducible refine floordiv_int ?kbe ?_ (Or.inl (PyProof.noPylong_of_log2 ?kbp))); (case kbe => exact pow16_ne _); (case kbp => exact pow16_log (by omega))))

local macro_rules | `(tactic| walk_at "call type:tuple") => `(tactic| ((with_reducible show wpAny _ _ (call (Value.type "tuple") [Value.ref _]) _ _ _); refine Hold.keep ?_))
/-- the row that a number spells -/
def rowOf (n : Int) : List Int := List.map (fun k => ((n.fdiv 4).fdiv (16 ^ k.toNat)).fmod 16) (rangeKs 0 (n.fmod 4 - 0).toNat)
theorem row_call {w : World} {dp un : Nat} {gd : Option (List Code)} {cn : Str} {cs : Scope} {a : Addr} {ccd : Value} {cl : List (Str × Addr)} {outer : List Env} {A₀ : Around} {base h₀ : Heap} {L : Addr} {m : Str → Option Value}
   {s : Shared} {mean : ExcName → Option Value} {mg mb : Str → Option Value} {n : Int} {t : Tok} {Q E : Value → Shared → Prop}
   (B : Below A₀ base outer h₀) (F : Fr h₀ L s.heap m) (X : (Mine.hd.heap_39 w.params).In h₀) {news : List (Addr × Obj)} (N : News h₀ L s.heap news) (T : Top Mine.hd.view_39 (looseW Mine.hd.view_39 []) mean mg mb h₀) (hk : cs.kind = .function) (hd : dp + 10 < recursionLimit) (hu : un + 200 < cLine)
   (hret : ∀ D us c h' tk, Fr h₀ L h' m → News h₀ L h' ((D, { cls := .type "tuple", data := .seq (List.toArray us) c }) :: news) → (∀ q ∈ news, q.1 < D) → IntsAre us (rowOf n) → Q (.ref D) { s with heap := h', toks := tk }) :
   wpAny (model PySem.Challenge.rw_ad6014_01.row.prog w) (ktrTop dp un gd cn cs L a ccd cl outer) (call (.ref 101) [.int n t]) Q E s := by
  revert X; k_fill; intro X
  refine wpAny_call ?_
  k_dflt (walk_at "m enter")
  k_steps
  refine Hold.out ?_
  rename Fr _ _ _ _ => Fd
  rename News _ _ _ _ => Nd
  rename IntsAre _ _ => hI8
  rename _ = List.length (List.map _ _) => hL8
  have hys : ys.length < 100 := by
    rw [hL8, List.length_map]
    simp only [rangeKs_length]
    omega
  refine kde_tupleOf Fd Nd ⟨_, (Nd _ (.head _)).1, rfl, _, rfl⟩ (by simp; omega) rfl fun D h1 Fe Ne hD => ?_
  k_steps
  rename Fr _ _ _ _ => Ff
  rename News _ _ _ _ => Nf
  exact hret _ _ _ _ _ Ff (fun p hp => Nf p ((List.mem_cons.mp hp).elim (fun e => e ▸ .head _) (sub3 p))) (fun q hq => hD q (sub2 q hq)) hI8
end Mine
end
/-! part LawA -/
section
open PySem PySem.W PyProof.Rows PySem.Spec PySem.Calls
set_option maxRecDepth 100000
namespace Mine
/-- [_law_row(number) for number in …] -/
theorem compU_rows {prog : Program} {w : World} {A : Around} {s : Shared} {h₀ : Heap} {L : Addr} {m : Str → Option Value} {env : Env} {elt : Expr} {x : Str} {scope : Scope} {cl : List (Str × Addr)} {S : List (Addr × Obj) → Prop} {Fin : List Value → List (Addr × Obj) → Prop} {news : List (Addr × Obj)} {vs : List Value} {ns : List Int} (hi : IntsAre vs ns) (hS : ∀ nw, (∀ p ∈ news, p ∈ nw) → S nw)
    (turn : ∀ n t I oI C oC D m₂ h tk (E' : Value → Shared → Prop) (Q : Value → Shared → Prop) ys nw, LCg.NsObj oC m₂ → m₂ x = some (.int n t) → Fr h₀ L h m → News h₀ L h ((I, oI) :: (C, oC) :: (D, LCg.lst ys) :: nw) →
      (∀ a us c h' tk', Fr h₀ L h' m → News h₀ L h' ((a, { cls := .type "tuple", data := .seq (List.toArray us) c }) :: (I, oI) :: (C, oC) :: (D, LCg.lst ys) :: nw) → (∀ q ∈ ((I, oI) :: (C, oC) :: (D, LCg.lst ys) :: nw), q.1 < a) → IntsAre us (rowOf n) → Q (.ref a) { s with heap := h', toks := tk' }) →
      wpAny (model prog w) A (eval elt (compEnvC scope cl C env)) Q E' { s with heap := h, toks := tk })
    (fin : ∀ ys added, (∀ p ∈ added, p.2.cls = .type "tuple" ∧ ∃ xs c, p.2.data = .seq xs c) → F2 (RowIn added) ys (ns.map rowOf) → Fin ys (added ++ news)) :
    LCg.CompRest prog w A h₀ L m env elt x scope cl s S (fun i v => (List.toArray vs)[i]? = some v) Fin (List.toArray vs).size 0 [] news := by
  have hvl := hi.length
  have key : ∀ k i ys added, i + k = vs.length → (∀ p ∈ added, p.2.cls = .type "tuple" ∧ ∃ xs c, p.2.data = .seq xs c) → F2 (RowIn added) ys ((ns.take i).map rowOf) → LCg.CompRest prog w A h₀ L m env elt x scope cl s S (fun i v => (List.toArray vs)[i]? = some v) Fin k i ys (added ++ news) := by
    intro k
    induction k with
    | zero =>
      intro i ys added hik hadd hy
      refine LCg.CompRest.zero (fin ys added hadd ?_)
      rwa [show i = ns.length from by omega, List.take_length] at hy
    | succ k ih =>
      intro i ys added hik hadd hy
      refine LCg.CompRest.succ ?_
      intro v I oI C oC D m₂ h tk E' hv hC hx F N off ne
      have hlt : i < ns.length := by omega
      obtain ⟨t, ht⟩ := hi.get i ns[i] (by simp [hlt])
      have hv' : v = .int ns[i] t := by
        have : vs[i]? = some v := by simpa using hv
        rw [ht] at this; exact (Option.some.inj this).symm
      subst hv'
      refine turn ns[i] t I oI C oC D m₂ h tk E' _ ys (added ++ news) hC hx F N fun a us c h' tk' F' N' hfr hr => ?_
      have hmem : ∀ q ∈ added ++ news, q.1 < a := fun q hq => hfr q (sub3 q hq)
      refine LCg.CompEnd.intro F' N' (((a, { cls := .type "tuple", data := .seq (List.toArray us) c }) :: added) ++ news) (fun p hp => ?_) ⟨⟨Nat.ne_of_gt (hfr (I, oI) (by simp)), Nat.ne_of_gt (hfr (C, oC) (by simp)), Nat.ne_of_gt (hfr (D, LCg.lst ys) (by simp))⟩, off⟩ (hS _ fun p hp => by simp [hp]) ?_
      · simp only [List.mem_cons, List.cons_append, List.mem_append] at hp ⊢
        rcases hp with h | h | h | h | h <;> simp [h]
      · have htake : ns.take (i + 1) = ns.take i ++ [ns[i]] := by rw [List.take_add_one]; simp [hlt]
        refine ih (i + 1) _ _ (by omega) (fun p hp => ?_) ?_
        · rcases List.mem_cons.mp hp with rfl | hp
          · exact ⟨rfl, _, _, rfl⟩
          · exact hadd p hp
        · rw [htake, List.map_append]
          exact (F2.rows sub1 hy).append (.cons ⟨a, us, c, rfl, .head _, hr⟩ .nil)
  have := key vs.length 0 [] [] (by omega) (fun _ h => nomatch h) .nil
  simpa using this
end Mine
end
/-! part LoopG -/
section
open PySem PySem.Calls PyProof.Rows PyProof.V PySem.Spec PySem.W
set_option maxRecDepth 100000
namespace Mine
section
variable {prog : Program} {w : World} {A : Around} {E : Value → Shared → Prop} {s : Shared} {env : Env} {h₀ : Heap} {x : Str} {body : List Stmt} {Q : Flow → Shared → Prop}
/-- the end of a turn of the law's loop -/
def TurnEnd {σ : Type} (h₀ : Heap) (L : Addr) (x : Str) (stored : List Str) (m₀ : Str → Option Value) (Led : σ → List (Addr × Obj)) (muts : σ → List Addr) (Inv : σ → List (Addr × Obj) → Prop) (T₁ : List (Addr × Obj)) (s₁ : Shared) (Q : Flow → Shared → Prop) (f : Flow) (s₂ : Shared) : Prop :=
  match f with
  | .ret v => Q (.ret v) s₂
  | .brk => Q .next s₂
  | _ => ∃ h' g' tk m' c' T', s₂ = { s₁ with heap := h', gens := g', toks := tk } ∧ AllBare g' ∧ Fr h₀ L h' m' ∧ News h₀ L h' (Led c' ++ T') ∧ (∀ p ∈ T₁, p ∈ T') ∧ OwnOff T' (muts c') ∧ (∀ z, z ≠ x → stored.contains z = false → m' z = m₀ z) ∧ Inv c' T'

theorem iter_lawG {σ : Type} (Led : σ → List (Addr × Obj)) (muts : σ → List Addr) (hmut : ∀ c a, a ∈ muts c → ∃ o, (a, o) ∈ Led c) (stored : List Str) (Inv : Nat → σ → List (Addr × Obj) → Prop)
    {l : Addr} {ol : Obj} {items : Array Value} {nl : Nat} {m₀ : Str → Option Value} (c₀ : σ) (T₀ : List (Addr × Obj)) {px : Pos}
    (hh : A.handled = none) (hx : env.kindOf x = some .local) (hp : (env.scope.kind == .class || (env.scope.kind == .module && env.locals != env.globals)) = false) (hE : PassesOwn (model prog w) A env E)
    (hl : (l, ol) ∈ T₀) (hlc : ol.cls = .type "list") (hld : ol.data = .seq items nl) (F : Fr h₀ env.locals s.heap m₀) (N : News h₀ env.locals s.heap (Led c₀ ++ T₀)) (hT₀ : OwnOff T₀ (muts c₀)) (hg : AllBare s.gens)
    (hj : Inv 0 c₀ T₀)
    (hfld : ∀ i c T, Inv i c T → ∀ p ∈ Led c, ∀ vs, p.2.data ≠ .fields vs)
    (grow : ∀ i c T T', Inv i c T → (∀ p ∈ T, p ∈ T') → Inv i c T')
    (stab : ∀ i c T I o h, News h₀ env.locals h (Led c ++ T) → (I, o) ∈ T → o.cls = .type "list_iterator" → Inv i c T → Inv i c (offI I T))
    (turn : ∀ i v c (u : Str → Option Value) T h g tk, items[i]? = some v → OwnOff T (muts c) → Inv i c T → AllBare g → Fr h₀ env.locals h (fun z => if z = x then some v else if stored.contains z then u z else m₀ z) → News h₀ env.locals h (Led c ++ T) →
      wpAny (model prog w) A (execs body env) (TurnEnd h₀ env.locals x stored m₀ Led muts (Inv (i + 1)) T { s with heap := h, gens := g, toks := tk } Q) E { s with heap := h, gens := g, toks := tk })
    (done : ∀ c (u : Str → Option Value) T h g tk, OwnOff T (muts c) → Inv items.size c T → AllBare g → Fr h₀ env.locals h (fun z => if z = x then u z else if stored.contains z then u z else m₀ z) → News h₀ env.locals h (Led c ++ T) → Q .next { s with heap := h, gens := g, toks := tk }) :
    wpAny (model prog w) A (pyIter (.ref l)) (fun it s₂ => codeAny (model prog w) A (.forLoop (.Name x px) it body [] env) (fun r s' => match r with | .ok f => Q f s' | .error e => cameBackBy (model prog w) A env E e s') s₂) E s := by
  have zl := N (l, ol) (List.mem_append_right _ hl)
  have hlist : s.heap.IsList l items := ⟨ol, zl.1, hlc, nl, hld⟩
  refine wpAny_pyIter_list hlist ?_
  have hIN : ∀ b o, s.heap.get? b = some o → b ≠ s.heap.objs.size := fun b o e => Nat.ne_of_lt (Heap.lt_size e)
  generalize hI : s.heap.objs.size = I at hIN
  have hIL : I ≠ env.locals := by rw [← hI]; exact Nat.ne_of_gt F.ns.lt
  have hI₀ : h₀.get? I = none := by rw [← hI]; exact next_is_new F
  let J : Nat → Shared → Prop := fun n s' => ∃ i h g tk m₁ c T, s' = { s with heap := h, gens := g, toks := tk } ∧ n = items.size - i ∧ i ≤ items.size ∧ AllBare g ∧ Fr h₀ env.locals h m₁ ∧ (∀ z, z ≠ x → stored.contains z = false → m₁ z = m₀ z) ∧ News h₀ env.locals h (Led c ++ T) ∧ OwnOff T (muts c) ∧
    h.IsListIter I l i ∧ (∀ p ∈ Led c ++ T, p.1 ≠ I) ∧ (l, ol) ∈ T ∧ Inv i c T
  have mapEq : ∀ (v : Option Value) (m₁ : Str → Option Value), (∀ z, z ≠ x → stored.contains z = false → m₁ z = m₀ z) → (fun z => if z = x then v else m₁ z) = fun z => if z = x then v else if stored.contains z then m₁ z else m₀ z := fun v m₁ hm => by
    funext z
    by_cases h1 : z = x
    · simp [h1]
    · simp only [if_neg h1]
      cases h2 : stored.contains z with
      | true => simp
      | false => simpa using hm z h1 h2
  refine codeAny_forLoop J (fun n s' hJ => ?_) items.size ⟨0, _, _, _, m₀, c₀, T₀, rfl, rfl, Nat.zero_le _, hg, F.push _, fun _ _ _ => rfl, fun p hp => ⟨Heap.get?_push_of_some _ (N p hp).1, (N p hp).2⟩, hT₀, ⟨_, by rw [← hI]; exact Heap.get?_push_size _ rfl, rfl, rfl⟩, fun p hp => hIN _ _ (N p hp).1, hl, hj⟩
  obtain ⟨i, h, g, tk, m₁, c, T, rfl, rfl, hi, hgb, F₁, hm₁, N₁, hoff, hit, hnI, hlT, hInv⟩ := hJ
  have zl₁ := N₁ (l, ol) (List.mem_append_right _ hlT)
  have hl₁ : h.IsList l items := ⟨ol, zl₁.1, hlc, nl, hld⟩
  by_cases hlt : i < items.size
  · refine wpAny_pyNext_list_item hit hl₁ (x := items[i]) (by simp [hlt]) fun h₂ hit₂ hs₂ => ?_
    dsimp only
    have F₂ : Fr h₀ env.locals h₂ m₁ := F₁.change hs₂ hIL hI₀
    have N₂ : News h₀ env.locals h₂ (Led c ++ T) := fun p hp => ⟨hs₂.extBut _ _ (hnI p hp) (N₁ p hp).1, (N₁ p hp).2⟩
    refine wpAny_assign_Name (wpAny_storeName_local hx F₂.ns (fun h₃ hn₃ hs₃ => ?_) hp)
    have F₃ : Fr h₀ env.locals h₃ (fun z => if z = x then some items[i] else m₁ z) := ⟨hn₃, fun b o e => hs₃.extBut _ _ (fun hb => by
      have := F₁.above
      rw [hb] at e
      exact absurd (Heap.lt_size e) (Nat.not_lt.mpr this)) (F₂.keep b o e), F₂.above⟩
    have N₃ : News h₀ env.locals h₃ (Led c ++ T) := fun p hp => ⟨hs₃.extBut _ _ (N₂ p hp).2.1 (N₂ p hp).1, (N₂ p hp).2⟩
    have hit₃ : h₃.IsListIter I l (i + 1) := hit₂.at fun o e => hs₃.extBut _ o hIL e
    obtain ⟨oI, hoI, hcI, hdI⟩ := id hit₃
    rw [mapEq _ m₁ hm₁] at F₃
    have hmutI : ∀ c a, a ∈ muts c → (∀ p ∈ Led c ++ T, p.1 ≠ I) → a ≠ I := fun c a ha hn => by
      obtain ⟨o, ho⟩ := hmut c a ha
      exact hn _ (List.mem_append_left _ ho)
    have hoff₃ : OwnOff ((I, oI) :: T) (muts c) := fun p hp b hb => by
      rcases List.mem_cons.mp hp with rfl | hp
      · exact Ne.symm (hmutI c b hb hnI)
      · exact hoff p hp b hb
    have N₄ : News h₀ env.locals h₃ (Led c ++ ((I, oI) :: T)) := fun p hp => by
      rcases List.mem_append.mp hp with hp | hp
      · exact N₃ p (List.mem_append_left _ hp)
      · rcases List.mem_cons.mp hp with rfl | hp
        · exact ⟨hoI, hIL, hI₀⟩
        · exact N₃ p (List.mem_append_right _ hp)
    refine wpAny_passesOwn hE (wpAny_mono (turn i items[i] c m₁ ((I, oI) :: T) h₃ g (tk + 1) (by simp [hlt]) hoff₃ (grow _ _ _ _ hInv sub1) hgb F₃ N₄) (fun f s₂ hf => ?_) fun _ _ e => e)
    have fin : (∃ h' g' tk m' c' T', s₂ = { s with heap := h', gens := g', toks := tk } ∧ AllBare g' ∧ Fr h₀ env.locals h' m' ∧ News h₀ env.locals h' (Led c' ++ T') ∧ (∀ p ∈ (I, oI) :: T, p ∈ T') ∧ OwnOff T' (muts c') ∧ (∀ z, z ≠ x → stored.contains z = false → m' z = m₀ z) ∧ Inv (i + 1) c' T') → ∃ n', n' < items.size - i ∧ J n' s₂ := by
      rintro ⟨h', g', tk', m', c', T', rfl, hgb', F', N', hsub, hoff', hm', hInv'⟩
      have hIT : (I, oI) ∈ T' := hsub _ List.mem_cons_self
      have hledI : ∀ p ∈ Led c', p.1 ≠ I := fun p hp hpI => by
        have z1 := (N' p (List.mem_append_left _ hp)).1
        have z2 := (N' _ (List.mem_append_right _ hIT)).1
        rw [hpI] at z1
        have z3 : p.2 = oI := Option.some.inj (z1.symm.trans z2)
        exact hfld _ _ _ hInv' p hp _ (by rw [z3]; exact hdI)
      refine ⟨items.size - (i + 1), by omega, i + 1, h', g', tk', m', c', offI I T', rfl, rfl, hlt, hgb', F', hm', fun p hp => N' p ?_, fun p hp => hoff' p (mem_offI.mp hp).1, ⟨oI, (N' _ (List.mem_append_right _ hIT)).1, hcI, hdI⟩, fun p hp => ?_, mem_offI.mpr ⟨hsub _ (.tail _ hlT), hnI _ (List.mem_append_right _ hlT)⟩, stab _ _ _ _ oI h' N' hIT hcI hInv'⟩
      · rcases List.mem_append.mp hp with hp | hp
        · exact List.mem_append_left _ hp
        · exact List.mem_append_right _ (mem_offI.mp hp).1
      · rcases List.mem_append.mp hp with hp | hp
        · exact hledI p hp
        · exact (mem_offI.mp hp).2
    cases f with
    | ret v => exact hf
    | brk => exact hf
    | next => exact fin hf
    | cont => exact fin hf
  · have : i = items.size := by omega
    subst this
    refine wpAny_pyNext_list_end hh hit hl₁ (by simp) fun h₂ he => ?_
    dsimp only
    refine wpAny_pure (done c m₁ T h₂ g tk hoff hInv hgb ?_ fun p hp => ⟨he _ _ (hnI p hp) (N₁ p hp).1, (N₁ p hp).2⟩)
    have F₂ : Fr h₀ env.locals h₂ m₁ := ⟨F₁.ns.at' fun o e => he _ o (Ne.symm hIL) e, fun b o e => he b o (fun hb => by rw [hb, hI₀] at e; cases e) (F₁.keep b o e), F₁.above⟩
    have e : m₁ = fun z => if z = x then m₁ z else if stored.contains z then m₁ z else m₀ z := by
      funext z
      by_cases h1 : z = x
      · simp [h1]
      · simp only [if_neg h1]
        cases h2 : stored.contains z with
        | true => simp
        | false => simpa using hm₁ z h1 h2
    rw [← e]; exact F₂
end
end Mine
end
/-! part LawS -/
section
open PySem PySem.W PyProof.Rows PySem.Spec PySem.Calls
set_option maxRecDepth 100000
namespace Mine
/-- the state of the law's loop -/
structure LSt where
  oc : Obj
  cS : Nat
  cM : Nat
  x0 : Addr
  d0 : Addr
  E0 : Addr
  M0 : Addr
  t0 : Tok
  n0 : Nat
  cu0 : Nat
  c0 : Nat
  us0 : List Value
  ms0 : List Value
  R0 : List (List Int)
  x1 : Addr
  d1 : Addr
  E1 : Addr
  M1 : Addr
  t1 : Tok
  n1 : Nat
  cu1 : Nat
  c1 : Nat
  us1 : List Value
  ms1 : List Value
  R1 : List (List Int)
abbrev ledL (w : World) (aC aS aM : Addr) (c : LSt) : List (Addr × Obj) :=
  [(aC, c.oc), (aS, listOf #[.ref c.x0, .ref c.x1] c.cS), (aM, listOf #[.ref c.M0, .ref c.M1] c.cM),
   (c.x0, instObj 92 c.d0), (c.d0, itemsD w c.E0 c.t0 c.n0), (c.E0, listOf (List.toArray c.us0) c.cu0), (c.M0, listOf (List.toArray c.ms0) c.c0),
   (c.x1, instObj 92 c.d1), (c.d1, itemsD w c.E1 c.t1 c.n1), (c.E1, listOf (List.toArray c.us1) c.cu1), (c.M1, listOf (List.toArray c.ms1) c.c1)]
abbrev mutL (aC aS aM : Addr) (c : LSt) : List Addr := [aC, aS, aM, c.d0, c.E0, c.d1, c.E1]
abbrev adrL (aC aS aM : Addr) (c : LSt) : List Nat := [aC, aS, aM, c.x0, c.d0, c.E0, c.M0, c.x1, c.d1, c.E1, c.M1]
structure InvL (aC aS aM : Addr) (i : Nat) (c : LSt) (T : List (Addr × Obj)) : Prop where
  cell : ∃ v, c.oc.data = .cell v
  nd : (adrL aC aS aM c).Nodup
  us0 : F2 (RowIn T) c.us0 c.R0
  ms0 : F2 (RowIn T) c.ms0 c.R0
  us1 : F2 (RowIn T) c.us1 c.R1
  ms1 : F2 (RowIn T) c.ms1 c.R1
  st0 : c.R0.Pairwise (· < ·)
  st1 : c.R1.Pairwise (· < ·)
  le0 : c.R0.length ≤ 3 + 2 * i
  le1 : c.R1.length ≤ 3 + 2 * i
  dx0 : @LT.lt Nat instLTNat c.d0 c.x0
  xE0 : @LT.lt Nat instLTNat c.x0 c.E0
  dx1 : @LT.lt Nat instLTNat c.d1 c.x1
  xE1 : @LT.lt Nat instLTNat c.x1 c.E1
theorem InvL.grow {aC aS aM : Addr} {i : Nat} {c : LSt} {T T' : List (Addr × Obj)} (x : InvL aC aS aM i c T) (h : ∀ p ∈ T, p ∈ T') : InvL aC aS aM i c T' :=
  { x with us0 := x.us0.rows h, ms0 := x.ms0.rows h, us1 := x.us1.rows h, ms1 := x.ms1.rows h }
theorem rows_offI {h₀ h : Heap} {L : Addr} {T : List (Addr × Obj)} (N : News h₀ L h T) {I : Addr} {o : Obj} (hI : (I, o) ∈ T) (hc : o.cls = .type "list_iterator") {us : List Value} {rs : List (List Int)} (x : F2 (RowIn T) us rs) : F2 (RowIn (offI I T)) us rs :=
  x.imp fun _ _ y => y.offI N hI hc
theorem InvL.stab {w : World} {aC aS aM : Addr} {i : Nat} {c : LSt} {T : List (Addr × Obj)} {h₀ h : Heap} {L I : Addr} {o : Obj} (N : News h₀ L h (ledL w aC aS aM c ++ T)) (hI : (I, o) ∈ T) (hc : o.cls = .type "list_iterator") (x : InvL aC aS aM i c T) : InvL aC aS aM i c (offI I T) := by
  have N' : News h₀ L h T := fun p hp => N p (List.mem_append_right _ hp)
  exact { x with us0 := rows_offI N' hI hc x.us0, ms0 := rows_offI N' hI hc x.ms0, us1 := rows_offI N' hI hc x.us1, ms1 := rows_offI N' hI hc x.ms1 }
theorem mutL_led {w : World} {aC aS aM : Addr} (c : LSt) (a : Addr) (h : a ∈ mutL aC aS aM c) : ∃ o, (a, o) ∈ ledL w aC aS aM c := by
  simp only [mutL, List.mem_cons, List.not_mem_nil, or_false] at h
  rcases h with h | h | h | h | h | h | h
  · subst h; exact ⟨_, .head _⟩
  · subst h; exact ⟨_, .tail _ (.head _)⟩
  · subst h; exact ⟨_, .tail _ (.tail _ (.head _))⟩
  · subst h; exact ⟨_, .tail _ (.tail _ (.tail _ (.tail _ (.head _))))⟩
  · subst h; exact ⟨_, .tail _ (.tail _ (.tail _ (.tail _ (.tail _ (.head _)))))⟩
  · subst h; exact ⟨_, .tail _ (.tail _ (.tail _ (.tail _ (.tail _ (.tail _ (.tail _ (.tail _ (.head _))))))))⟩
  · subst h; exact ⟨_, .tail _ (.tail _ (.tail _ (.tail _ (.tail _ (.tail _ (.tail _ (.tail _ (.tail _ (.head _)))))))))⟩
theorem InvL.fld {w : World} {aC aS aM : Addr} {i : Nat} {c : LSt} {T : List (Addr × Obj)} (x : InvL aC aS aM i c T) : ∀ p ∈ ledL w aC aS aM c, ∀ vs, p.2.data ≠ .fields vs := by
  obtain ⟨v, hv⟩ := x.cell
  intro p hp vs
  simp only [ledL, List.mem_cons, List.not_mem_nil, or_false] at hp
  rcases hp with h | h | h | h | h | h | h | h | h | h | h <;> (subst h; dsimp only; first | (rw [hv]; intro e; cases e) | (intro e; cases e))

theorem offC {w : World} {aC aS aM : Addr} {c : LSt} {T : List (Addr × Obj)} (hnd : (adrL aC aS aM c).Nodup) (ho : OwnOff T (mutL aC aS aM c)) : ∀ p ∈ (ledL w aC aS aM c).tail ++ T, p.1 ≠ aC := by
  simp only [adrL, List.nodup_cons, List.mem_cons, List.not_mem_nil, or_false, not_or, not_false_eq_true, List.nodup_nil, and_true] at hnd
  obtain ⟨h, _⟩ := hnd
  intro p hp
  simp only [ledL, List.tail_cons, List.mem_append, List.mem_cons, List.not_mem_nil, or_false] at hp
  rcases hp with (hp | hp | hp | hp | hp | hp | hp | hp | hp | hp) | hp
  · subst hp; exact Ne.symm h.1
  · subst hp; exact Ne.symm h.2.1
  · subst hp; exact Ne.symm h.2.2.1
  · subst hp; exact Ne.symm h.2.2.2.1
  · subst hp; exact Ne.symm h.2.2.2.2.1
  · subst hp; exact Ne.symm h.2.2.2.2.2.1
  · subst hp; exact Ne.symm h.2.2.2.2.2.2.1
  · subst hp; exact Ne.symm h.2.2.2.2.2.2.2.1
  · subst hp; exact Ne.symm h.2.2.2.2.2.2.2.2.1
  · subst hp; exact Ne.symm h.2.2.2.2.2.2.2.2.2
  · exact ho p hp aC (.head _)
theorem swap2 {h₀ h : Heap} {L : Addr} {a b : Addr × Obj} {T : List (Addr × Obj)} (N : News h₀ L h (a :: b :: T)) : News h₀ L h (b :: a :: T) := fun p hp => N p (by
  simp only [List.mem_cons] at hp ⊢
  rcases hp with h | h | h <;> simp [h])
theorem off_rows {h₀ h : Heap} {L : Addr} {T led : List (Addr × Obj)} {muts : List Addr} (N : News h₀ L h led) (hT : ∀ p ∈ T, p ∈ led ∧ p.2.cls = .type "tuple" ∧ ∃ xs c, p.2.data = .seq xs c) (hm : ∀ a ∈ muts, ∃ o, (a, o) ∈ led ∧ (o.cls ≠ .type "tuple" ∨ ∃ v, o.data = .cell v)) : OwnOff T muts := fun p hp b hb e => by
  obtain ⟨h1, h2, xs, c, h3⟩ := hT p hp
  obtain ⟨o, h4, h5⟩ := hm b hb
  have z1 := (N p h1).1
  have z2 := (N _ h4).1
  rw [e] at z1
  have z3 : p.2 = o := Option.some.inj (z1.symm.trans z2)
  rcases h5 with h5 | ⟨v, h5⟩
  · exact h5 (z3 ▸ h2)
  · rw [z3, h5] at h3; cases h3
/-- behind the turn's big if -/
def MidEnd (w : World) (h₀ : Heap) (L : Addr) (x : Str) (stored : List Str) (m₀ : Str → Option Value) (aC aS aM : Addr) (i : Nat) (T₁ : List (Addr × Obj)) (s₁ : Shared) (f : Flow) (s₂ : Shared) : Prop :=
  f = .next ∧ ∃ h' tk m' c' T', s₂ = { s₁ with heap := h', toks := tk } ∧ Fr h₀ L h' m' ∧ News h₀ L h' (ledL w aC aS aM c' ++ T') ∧ (∀ p ∈ T₁, p ∈ T') ∧ OwnOff T' (mutL aC aS aM c') ∧ (∀ z, z ≠ x → stored.contains z = false → m' z = m₀ z) ∧ InvL aC aS aM i c' T'
theorem cut_if {M : Model} {A : Around} {E : Value → Shared → Prop} {s s₁ sT : Shared} {t : Sem Flow} {rest : Sem Flow} {w : World} {h₀ : Heap} {L : Addr} {x : Str} {stored : List Str} {m₀ : Str → Option Value} {aC aS aM : Addr} {i : Nat} {T₁ T₂ : List (Addr × Obj)} {Inv : LSt → List (Addr × Obj) → Prop} {Q : Flow → Shared → Prop}
    (h1 : wpAny M A t (MidEnd w h₀ L x stored m₀ aC aS aM i T₁ s₁) E s)
    (h2 : ∀ s', MidEnd w h₀ L x stored m₀ aC aS aM i T₁ s₁ .next s' → wpAny M A rest (TurnEnd h₀ L x stored m₀ (ledL w aC aS aM) (mutL aC aS aM) Inv T₂ sT Q) E s') :
    wpAny M A t (fun f s' => match f with | .next => wpAny M A rest (TurnEnd h₀ L x stored m₀ (ledL w aC aS aM) (mutL aC aS aM) Inv T₂ sT Q) E s' | f => TurnEnd h₀ L x stored m₀ (ledL w aC aS aM) (mutL aC aS aM) Inv T₂ sT Q f s') E s :=
  wpAny_mono h1 (fun f s' hm => by
    obtain ⟨rfl, r⟩ := hm
    exact h2 s' ⟨rfl, r⟩) fun _ _ e => e
/-- the law's loop, from the ledger that the prefix leaves -/
theorem start_loop {prog : Program} {w : World} {A : Around} {E : Value → Shared → Prop} {s : Shared} {env : Env} {h₀ : Heap} {x : Str} {body : List Stmt} {Q : Flow → Shared → Prop} {m₀ : Str → Option Value} {px : Pos}
    {aC aS aM Ds x0 d0 E0 M0 x1 d1 E1 M1 : Addr} {oc : Obj} {ws us0 ms0 us1 ms1 : List Value} {cw cS cM cu0 c0 cu1 c1 n0 n1 : Nat} {t0 t1 : Tok} {ks : List Int} {R0 R1 : List (List Int)} {TT : List (Addr × Obj)}
    (F : Fr h₀ env.locals s.heap m₀)
    (N : News h₀ env.locals s.heap ((Ds, listOf (List.toArray ws) cw) :: (aM, listOf #[.ref M0, .ref M1] cM) :: (aS, listOf #[.ref x0, .ref x1] cS) :: (E1, listOf (List.toArray us1) cu1) :: (x1, instObj 92 d1) :: (d1, itemsD w E1 t1 n1) ::
      (E0, listOf (List.toArray us0) cu0) :: (x0, instObj 92 d0) :: (d0, itemsD w E0 t0 n0) :: (M1, listOf (List.toArray ms1) c1) :: (M0, listOf (List.toArray ms0) c0) :: (aC, oc) :: TT))
    (stored : List Str) (hi : IntsAre ws ks) (hks : ks.length ≤ 20) (hh : A.handled = none) (hx : env.kindOf x = some .local) (hp : (env.scope.kind == .class || (env.scope.kind == .module && env.locals != env.globals)) = false) (hE : PassesOwn (model prog w) A env E)
    (hg : AllBare s.gens) (hoff : OwnOff ((Ds, listOf (List.toArray ws) cw) :: TT) [aC, aS, aM, d0, E0, d1, E1])
    (hInv : InvL aC aS aM 0 ⟨oc, cS, cM, x0, d0, E0, M0, t0, n0, cu0, c0, us0, ms0, R0, x1, d1, E1, M1, t1, n1, cu1, c1, us1, ms1, R1⟩ TT)
    (turn : ∀ bS bM, bS = aS → bM = aM → ∀ i n t c (u : Str → Option Value) T h g tk, i < 20 → OwnOff T (mutL aC aS aM c) → InvL aC aS aM i c T → AllBare g → Fr h₀ env.locals h (fun z => if z = x then some (.int n t) else if stored.contains z then u z else m₀ z) → News h₀ env.locals h (ledL w aC aS aM c ++ T) →
      wpAny (model prog w) A (execs body env) (TurnEnd h₀ env.locals x stored m₀ (ledL w aC aS aM) (mutL aC aS aM) (InvL aC aS aM (i + 1)) T { s with heap := h, gens := g, toks := tk } Q) E { s with heap := h, gens := g, toks := tk })
    (done : ∀ bS bM, bS = aS → bM = aM → ∀ i c (u : Str → Option Value) T h g tk, i ≤ 20 → OwnOff T (mutL aC aS aM c) → InvL aC aS aM i c T → AllBare g → Fr h₀ env.locals h (fun z => if z = x then u z else if stored.contains z then u z else m₀ z) → News h₀ env.locals h (ledL w aC aS aM c ++ T) → Q .next { s with heap := h, gens := g, toks := tk }) :
    wpAny (model prog w) A (pyIter (.ref Ds)) (fun it s₂ => codeAny (model prog w) A (.forLoop (.Name x px) it body [] env) (fun r s' => match r with | .ok f => Q f s' | .error e => cameBackBy (model prog w) A env E e s') s₂) E s := by
  have hl := hi.length
  refine iter_lawG (ledL w aC aS aM) (mutL aC aS aM) mutL_led stored (InvL aC aS aM) (l := Ds) (ol := listOf (List.toArray ws) cw) (items := List.toArray ws) (nl := cw)
    ⟨oc, cS, cM, x0, d0, E0, M0, t0, n0, cu0, c0, us0, ms0, R0, x1, d1, E1, M1, t1, n1, cu1, c1, us1, ms1, R1⟩ ((Ds, listOf (List.toArray ws) cw) :: TT) hh hx hp hE (.head _) rfl rfl F (fun p hp => N p ?_) hoff hg (hInv.grow sub1) (fun i c T x => x.fld) (fun i c T T' x h => x.grow h) (fun i c T I o h N hI hc x => x.stab N hI hc) ?_ ?_
  · simp only [ledL, List.mem_cons, List.mem_append, List.not_mem_nil, or_false] at hp ⊢
    rcases hp with (h | h | h | h | h | h | h | h | h | h | h) | h | h <;> simp [h]
  · intro i v c u T h g tk hv hoff' hI hgb F' N'
    have hlt : i < ks.length := by
      have : i < ws.length := by
        rcases Nat.lt_or_ge i ws.length with h | h
        · exact h
        · rw [List.getElem?_toArray, List.getElem?_eq_none h] at hv; cases hv
      omega
    obtain ⟨t, ht⟩ := hi.get i ks[i] (by simp [hlt])
    have hv' : v = .int ks[i] t := by
      rw [List.getElem?_toArray, ht] at hv; exact (Option.some.inj hv).symm
    subst hv'
    exact turn aS aM rfl rfl i ks[i] t c u T h g tk (by omega) hoff' hI hgb F' N'
  · intro c u T h g tk hoff' hI hgb F' N'
    exact done aS aM rfl rfl _ c u T h g tk (by rw [List.size_toArray]; omega) hoff' hI hgb F' N'
end Mine
end
/-! part KB -/
section
open PySem PySem.W PyProof.Rows PySem.Spec PySem.Calls
set_option maxRecDepth 100000
set_option maxHeartbeats 8000000
namespace Mine
/-! the law's own statements, met by their places -/
def bodyS : Stmt → List Stmt
  | .FunctionDef _ _ b .. => b
  | .For _ _ b .. => b
  | .If _ b .. => b
  | _ => []
def elseS : Stmt → List Stmt
  | .If _ _ e .. => e
  | _ => []
def scopeS : Stmt → Scope
  | .FunctionDef _ _ _ _ _ _ s .. => s
  | _ => default
def hdS : List Stmt → Stmt
  | [] => .Pass ⟨0,0,0,0⟩
  | x :: _ => x
def tlS : List Stmt → List Stmt
  | [] => []
  | _ :: x => x
abbrev tl2 (l : List Stmt) := tlS (tlS l)
abbrev tl4 (l : List Stmt) := tl2 (tl2 l)
def lawDef : Stmt := hdS (tlS (tl2 (tl4 prg.main.body)))
def lawSc : Scope := scopeS lawDef
def turnS : List Stmt := bodyS (hdS (tl4 (bodyS lawDef)))
def if0 : Stmt := hdS (tlS (tl4 turnS))
def if1 : Stmt := hdS (elseS if0)
def if2 : Stmt := hdS (elseS if1)
def if3 : Stmt := hdS (elseS if2)
def if4 : Stmt := hdS (elseS if3)
def kS0 : List Stmt := bodyS if0
def kS1 : List Stmt := bodyS if1
def kS2 : List Stmt := bodyS if2
def kS3 : List Stmt := bodyS if3
def kS4 : List Stmt := bodyS if4
def kS5 : List Stmt := elseS if4
def endS : List Stmt := tl2 (tl4 turnS)
def lastS : List Stmt := tlS (tl4 (bodyS lawDef))
def lawEnv (L fa : Addr) (cw : Value) : Env := envOfC (Str.ofString "law") lawSc L fa cw
def storedL : List Str := ["kind", "which", "one", "other", "handed", "there", "item", "low"]

/-- the two of a pair, the chosen one first -/
def pr2 {α : Type} (k : Int) (p q : α) : List α := if k = 0 then [p, q] else [q, p]
theorem pr2_0 {α : Type} (p q : α) : pr2 0 p q = [p, q] := rfl
theorem pr2_1 {α : Type} (p q : α) : pr2 1 p q = [q, p] := rfl
theorem pr2_at {α : Type} {k : Int} (h : k = 0 ∨ k = 1) (p q : α) : (pr2 k p q)[k.toNat]? = some p := by rcases h with rfl | rfl <;> rfl
theorem pr2_off {α : Type} {k : Int} (h : k = 0 ∨ k = 1) (p q : α) : (pr2 k p q)[(1 - k).toNat]? = some q := by rcases h with rfl | rfl <;> rfl
theorem pr2_len {α : Type} (k : Int) (p q : α) : (pr2 k p q).length = 2 := by unfold pr2; split <;> rfl
theorem pr2_set {k : Int} (h : k = 0 ∨ k = 1) (p q v : Value) : (pr2 k p q).toArray.setIfInBounds k.toNat v = (pr2 k v q).toArray := by rcases h with rfl | rfl <;> rfl

def pickL {α : Type} : List Nat → Nat → List α → List α
  | [], n, l => l.drop n
  | i :: is, n, l => match l[i]? with
    | some x => x :: pickL is n l
    | none => pickL is n l
theorem pickL_sub {α : Type} : ∀ (is : List Nat) (n : Nat) (l : List α) (p : α), p ∈ pickL is n l → p ∈ l
  | [], n, l, p, h => List.mem_of_mem_drop h
  | i :: is, n, l, p, h => by
    unfold pickL at h
    split at h
    · rename_i x hx
      rcases List.mem_cons.mp h with rfl | h
      · exact List.mem_of_getElem? hx
      · exact pickL_sub is n l p h
    · exact pickL_sub is n l p h
/-- a ledger taken by places, and the rest from a place on -/
theorem pick {h₀ h : Heap} {L : Addr} {l : List (Addr × Obj)} (is : List Nat) (n : Nat) (N : News h₀ L h l) : News h₀ L h (pickL is n l) := fun p hp => N p (pickL_sub is n l p hp)

abbrev ledK (w : World) (k : Int) (aC aS aM : Addr) (c : LSt) : List (Addr × Obj) :=
  [(aC, c.oc), (aS, listOf (List.toArray (pr2 k (.ref c.x0) (.ref c.x1))) c.cS), (aM, listOf (List.toArray (pr2 k (.ref c.M0) (.ref c.M1))) c.cM),
   (c.x0, instObj 92 c.d0), (c.d0, itemsD w c.E0 c.t0 c.n0), (c.E0, listOf (List.toArray c.us0) c.cu0), (c.M0, listOf (List.toArray c.ms0) c.c0),
   (c.x1, instObj 92 c.d1), (c.d1, itemsD w c.E1 c.t1 c.n1), (c.E1, listOf (List.toArray c.us1) c.cu1), (c.M1, listOf (List.toArray c.ms1) c.c1)]
def LSt.flip (c : LSt) : LSt := ⟨c.oc, c.cS, c.cM, c.x1, c.d1, c.E1, c.M1, c.t1, c.n1, c.cu1, c.c1, c.us1, c.ms1, c.R1, c.x0, c.d0, c.E0, c.M0, c.t0, c.n0, c.cu0, c.c0, c.us0, c.ms0, c.R0⟩
theorem InvL.flip {aC aS aM : Addr} {i : Nat} {c : LSt} {T : List (Addr × Obj)} (x : InvL aC aS aM i c T) : InvL aC aS aM i c.flip T :=
  { cell := x.cell, us0 := x.us1, ms0 := x.ms1, us1 := x.us0, ms1 := x.ms0, st0 := x.st1, st1 := x.st0, le0 := x.le1, le1 := x.le0, dx0 := x.dx1, xE0 := x.xE1, dx1 := x.dx0, xE1 := x.xE0,
    nd := by
      have h := x.nd
      show ([aC, aS, aM] ++ ([c.x1, c.d1, c.E1, c.M1] ++ [c.x0, c.d0, c.E0, c.M0])).Nodup
      have h' : ([aC, aS, aM] ++ ([c.x0, c.d0, c.E0, c.M0] ++ [c.x1, c.d1, c.E1, c.M1])).Nodup := h
      exact (List.Perm.append_left _ List.perm_append_comm).nodup_iff.mp h' }
theorem mutL.flip {aC aS aM : Addr} {c : LSt} {T : List (Addr × Obj)} (x : OwnOff T (mutL aC aS aM c)) : OwnOff T (mutL aC aS aM c.flip) := fun p hp b hb => x p hp b (by
  simp only [mutL, LSt.flip, List.mem_cons, List.not_mem_nil, or_false] at hb ⊢
  rcases hb with h | h | h | h | h | h | h <;> simp [h])
theorem ledK.of0 {w : World} {aC aS aM : Addr} {c : LSt} {h₀ h : Heap} {L : Addr} {T : List (Addr × Obj)} : News h₀ L h (ledL w aC aS aM c ++ T) ↔ News h₀ L h (ledK w 0 aC aS aM c ++ T) := Iff.rfl
theorem ledK.of1 {w : World} {aC aS aM : Addr} {c : LSt} {h₀ h : Heap} {L : Addr} {T : List (Addr × Obj)} (N : News h₀ L h (ledL w aC aS aM c ++ T)) : News h₀ L h (ledK w 1 aC aS aM c.flip ++ T) := pick [0, 1, 2, 7, 8, 9, 10, 3, 4, 5, 6] 11 N
theorem ledK.to1 {w : World} {aC aS aM : Addr} {c : LSt} {h₀ h : Heap} {L : Addr} {T : List (Addr × Obj)} (N : News h₀ L h (ledK w 1 aC aS aM c ++ T)) : News h₀ L h (ledL w aC aS aM c.flip ++ T) := pick [0, 1, 2, 7, 8, 9, 10, 3, 4, 5, 6] 11 N

/-- pair[k] = v -/
theorem store2 {prog : Program} {w : World} {A : Around} {E : Value → Shared → Prop} {s : Shared} {h₀ : Heap} {L D : Addr} {m : Str → Option Value} {rest : List (Addr × Obj)} {k : Int} {t : Tok} {p q v : Value} {n : Nat} {Q : Unit → Shared → Prop}
    (F : Fr h₀ L s.heap m) (N : News h₀ L s.heap ((D, listOf (List.toArray (pr2 k p q)) n) :: rest)) (hne : ∀ z ∈ rest, z.1 ≠ D) (hk : k = 0 ∨ k = 1)
    (h : ∀ h', Fr h₀ L h' m → News h₀ L h' ((D, listOf (List.toArray (pr2 k v q)) n) :: rest) → Q () { s with heap := h' }) :
    wpAny (model prog w) A (setItem (.ref D) (.int k t) v) Q E s := by
  have z := N _ (.head _)
  have hs : (List.toArray (pr2 k p q)).size = 2 := by rw [List.size_toArray]; exact pr2_len k p q
  refine ki_setAt z.1 (by omega) (by omega) (by omega) (h _ (F.change (Heap.SameBut.update ..) z.2.1 z.2.2) (ki_turn (pre := []) _ N (fun _ h => nomatch h) hne (pr2_set hk p q v) ?_))
  rw [List.size_toArray, List.size_toArray, pr2_len, pr2_len]; rfl
theorem item2 {prog : Program} {w : World} {A : Around} {E : Value → Shared → Prop} {s : Shared} {h₀ : Heap} {L D : Addr} {news : List (Addr × Obj)} {value slice : Expr} {k j : Int} {u : Tok} {p q v : Value} {n : Nat} {Q : Value → Shared → Prop}
    (N : News h₀ L s.heap news) (hm : (D, listOf (List.toArray (pr2 k p q)) n) ∈ news) (h0 : 0 ≤ j) (h1 : j < 2 ^ 63) (hx : (pr2 k p q)[j.toNat]? = some v) (h : Q v s)
    (hs : subscripted slice false (.ref D) (.int j u) = operate [.ref D, .int j u] (getItem (.ref D) (.int j u)) := by with_unfolding_all rfl) (hg : ∀ r, letTemporaryGo value (.ref D) r = pure () := by intro _; with_unfolding_all rfl) :
    wpAny (model prog w) A (subscriptTail value slice (.ref D) (.int j u)) Q E s := kim_list N hm rfl rfl h0 h1 hx h hs hg
theorem Fr.pin {h₀ h : Heap} {L : Addr} {m : Str → Option Value} {x : Str} {v : Value} (F : Fr h₀ L h m) (e : m x = some v) : Fr h₀ L h (fun z => if z = x then some v else m z) := by
  have : (fun z => if z = x then some v else m z) = m := by
    funext z
    by_cases hz : z = x
    · subst hz; simp [e]
    · simp [hz]
  rw [this]; exact F
end Mine
namespace Mine
theorem sub9 {α : Type} {a b c d e f g i j : α} {T : List α} : ∀ p ∈ T, p ∈ a :: b :: c :: d :: e :: f :: g :: i :: j :: T := fun p h => sub8 p (.tail _ h)
theorem sub10 {α : Type} {a b c d e f g i j k : α} {T : List α} : ∀ p ∈ T, p ∈ a :: b :: c :: d :: e :: f :: g :: i :: j :: k :: T := fun p h => sub9 p (.tail _ h)
theorem sub11 {α : Type} {a b c d e f g i j k l : α} {T : List α} : ∀ p ∈ T, p ∈ a :: b :: c :: d :: e :: f :: g :: i :: j :: k :: l :: T := fun p h => sub10 p (.tail _ h)
theorem sub12 {α : Type} {a b c d e f g i j k l m : α} {T : List α} : ∀ p ∈ T, p ∈ a :: b :: c :: d :: e :: f :: g :: i :: j :: k :: l :: m :: T := fun p h => sub11 p (.tail _ h)
theorem sub13 {α : Type} {a b c d e f g i j k l m n : α} {T : List α} : ∀ p ∈ T, p ∈ a :: b :: c :: d :: e :: f :: g :: i :: j :: k :: l :: m :: n :: T := fun p h => sub12 p (.tail _ h)
theorem sub14 {α : Type} {a b c d e f g i j k l m n o : α} {T : List α} : ∀ p ∈ T, p ∈ a :: b :: c :: d :: e :: f :: g :: i :: j :: k :: l :: m :: n :: o :: T := fun p h => sub13 p (.tail _ h)
end Mine
namespace Mine
theorem InvL.succ {aC aS aM : Addr} {i : Nat} {c : LSt} {T : List (Addr × Obj)} (x : InvL aC aS aM i c T) : InvL aC aS aM (i + 1) c T := { x with le0 := by have := x.le0; omega, le1 := by have := x.le1; omega }
end Mine
namespace Mine
section
variable {aC aS aM : Addr} {i : Nat} {c : LSt} {T : List (Addr × Obj)}
theorem offS (hI : InvL aC aS aM i c T) (ho : OwnOff T (mutL aC aS aM c)) {o1 o2 o3 o4 o5 o6 o7 o8 o9 o10 : Obj} :
    ∀ p ∈ (aC, o1) :: (aM, o2) :: (c.x0, o3) :: (c.d0, o4) :: (c.E0, o5) :: (c.M0, o6) :: (c.x1, o7) :: (c.d1, o8) :: (c.E1, o9) :: (c.M1, o10) :: T, p.1 ≠ aS := by
  have hnd := hI.nd
  simp only [adrL, List.nodup_cons, List.mem_cons, List.not_mem_nil, or_false, not_or, not_false_eq_true, List.nodup_nil, and_true] at hnd
  obtain ⟨h1, h2, _⟩ := hnd
  intro p hp
  simp only [List.mem_cons] at hp
  rcases hp with hp | hp | hp | hp | hp | hp | hp | hp | hp | hp | hp
  · subst hp; exact h1.1
  · subst hp; exact Ne.symm h2.1
  · subst hp; exact Ne.symm h2.2.1
  · subst hp; exact Ne.symm h2.2.2.1
  · subst hp; exact Ne.symm h2.2.2.2.1
  · subst hp; exact Ne.symm h2.2.2.2.2.1
  · subst hp; exact Ne.symm h2.2.2.2.2.2.1
  · subst hp; exact Ne.symm h2.2.2.2.2.2.2.1
  · subst hp; exact Ne.symm h2.2.2.2.2.2.2.2.1
  · subst hp; exact Ne.symm h2.2.2.2.2.2.2.2.2
  · exact ho p hp aS (.tail _ (.head _))
theorem offM (hI : InvL aC aS aM i c T) (ho : OwnOff T (mutL aC aS aM c)) {o1 o2 o3 o4 o5 o6 o7 o8 o9 o10 : Obj} :
    ∀ p ∈ (aC, o1) :: (aS, o2) :: (c.x0, o3) :: (c.d0, o4) :: (c.E0, o5) :: (c.M0, o6) :: (c.x1, o7) :: (c.d1, o8) :: (c.E1, o9) :: (c.M1, o10) :: T, p.1 ≠ aM := by
  have hnd := hI.nd
  simp only [adrL, List.nodup_cons, List.mem_cons, List.not_mem_nil, or_false, not_or, not_false_eq_true, List.nodup_nil, and_true] at hnd
  obtain ⟨h1, h2, h3, _⟩ := hnd
  intro p hp
  simp only [List.mem_cons] at hp
  rcases hp with hp | hp | hp | hp | hp | hp | hp | hp | hp | hp | hp
  · subst hp; exact h1.2.1
  · subst hp; exact h2.1
  · subst hp; exact Ne.symm h3.1
  · subst hp; exact Ne.symm h3.2.1
  · subst hp; exact Ne.symm h3.2.2.1
  · subst hp; exact Ne.symm h3.2.2.2.1
  · subst hp; exact Ne.symm h3.2.2.2.2.1
  · subst hp; exact Ne.symm h3.2.2.2.2.2.1
  · subst hp; exact Ne.symm h3.2.2.2.2.2.2.1
  · subst hp; exact Ne.symm h3.2.2.2.2.2.2.2
  · exact ho p hp aM (.tail _ (.tail _ (.head _)))
end
theorem ne_of_lt_all {news : List (Addr × Obj)} {D : Addr} (h : ∀ q ∈ news, q.1 < D) {a : Addr} {o : Obj} (hm : (a, o) ∈ news) : D ≠ a := Nat.ne_of_gt (h _ hm)
end Mine
namespace Mine
theorem nd_mid {pre mid post fs : List Nat} (hn : (pre ++ (mid ++ post)).Nodup) (hf : fs.Nodup) (hlt : ∀ a ∈ fs, ∀ b ∈ pre ++ post, b < a) : (pre ++ (fs ++ post)).Nodup := by
  rw [List.nodup_append] at hn ⊢
  obtain ⟨h1, h2, h3⟩ := hn
  rw [List.nodup_append] at h2 ⊢
  obtain ⟨h4, h5, h6⟩ := h2
  refine ⟨h1, ⟨hf, h5, fun a ha b hb => Nat.ne_of_gt (hlt a ha b (List.mem_append_right _ hb))⟩, fun a ha b hb => ?_⟩
  rcases List.mem_append.mp hb with hb | hb
  · exact Nat.ne_of_lt (hlt b hb a (List.mem_append_left _ ha))
  · exact h3 a ha b (List.mem_append_right _ hb)
theorem lt_map {news : List (Addr × Obj)} {D : Addr} (h : ∀ q ∈ news, q.1 < D) : ∀ b ∈ news.map (·.1), b < D := fun b hb => by
  obtain ⟨p, hp, e⟩ := List.mem_map.mp hb
  rw [← e]; exact h p hp
end Mine
namespace Mine
theorem offE {aC aS aM : Addr} {i : Nat} {c : LSt} {T : List (Addr × Obj)} (hI : InvL aC aS aM i c T) (ho : OwnOff T (mutL aC aS aM c)) {o1 o2 o3 o7 o8 o9 o10 o11 : Obj} :
    OwnOff ((aC, o1) :: (aS, o2) :: (aM, o3) :: (c.M0, o7) :: (c.x1, o8) :: (c.d1, o9) :: (c.E1, o10) :: (c.M1, o11) :: T) [c.E0] := by
  have hnd := hI.nd
  simp only [adrL, List.nodup_cons, List.mem_cons, List.not_mem_nil, or_false, not_or, not_false_eq_true, List.nodup_nil, and_true] at hnd
  obtain ⟨h1, h2, h3, _, _, h4, _⟩ := hnd
  intro p hp b hb
  rw [List.mem_singleton.mp hb]
  simp only [List.mem_cons] at hp
  rcases hp with hp | hp | hp | hp | hp | hp | hp | hp | hp
  · subst hp; exact h1.2.2.2.2.1
  · subst hp; exact h2.2.2.2.1
  · subst hp; exact h3.2.2.1
  · subst hp; exact Ne.symm h4.1
  · subst hp; exact Ne.symm h4.2.1
  · subst hp; exact Ne.symm h4.2.2.1
  · subst hp; exact Ne.symm h4.2.2.2.1
  · subst hp; exact Ne.symm h4.2.2.2.2
  · exact ho p hp c.E0 (by simp [mutL])
theorem offD {aC aS aM : Addr} {i : Nat} {c : LSt} {T : List (Addr × Obj)} (hI : InvL aC aS aM i c T) (ho : OwnOff T (mutL aC aS aM c)) {o1 o2 o3 o7 o8 o9 o10 o11 : Obj} :
    OwnOff ((aC, o1) :: (aS, o2) :: (aM, o3) :: (c.M0, o7) :: (c.x1, o8) :: (c.d1, o9) :: (c.E1, o10) :: (c.M1, o11) :: T) [c.d0] := by
  have hnd := hI.nd
  simp only [adrL, List.nodup_cons, List.mem_cons, List.not_mem_nil, or_false, not_or, not_false_eq_true, List.nodup_nil, and_true] at hnd
  obtain ⟨h1, h2, h3, _, h4, _⟩ := hnd
  intro p hp b hb
  rw [List.mem_singleton.mp hb]
  simp only [List.mem_cons] at hp
  rcases hp with hp | hp | hp | hp | hp | hp | hp | hp | hp
  · subst hp; exact h1.2.2.2.1
  · subst hp; exact h2.2.2.1
  · subst hp; exact h3.2.1
  · subst hp; exact Ne.symm h4.2.1
  · subst hp; exact Ne.symm h4.2.2.1
  · subst hp; exact Ne.symm h4.2.2.2.1
  · subst hp; exact Ne.symm h4.2.2.2.2.1
  · subst hp; exact Ne.symm h4.2.2.2.2.2
  · exact ho p hp c.d0 (by simp [mutL])
theorem filter_erase {R : List (List Int)} (h : R.Pairwise (· < ·)) (r : List Int) : R.filter (fun y => decide (y ≠ r)) = R.erase r := by
  have hn : R.Nodup := h.imp fun h e => by rw [e] at h; exact List.lt_irrefl _ h
  rw [hn.erase_eq_filter]
  refine List.filter_congr fun x _ => ?_
  by_cases hx : x = r <;> simp [hx]
end Mine
namespace Mine
theorem nd_one {pre mid post : List Nat} {a : Nat} (hn : (pre ++ (mid ++ post)).Nodup) (h : ∀ b ∈ pre ++ post, b ≠ a) : (pre ++ ([a] ++ post)).Nodup := by
  rw [List.nodup_append] at hn ⊢
  obtain ⟨h1, h2, h3⟩ := hn
  rw [List.nodup_append] at h2 ⊢
  obtain ⟨h4, h5, h6⟩ := h2
  refine ⟨h1, ⟨by simp, h5, fun x hx b hb => ?_⟩, fun x hx b hb => ?_⟩
  · rw [List.mem_singleton.mp hx]
    exact fun e => h b (List.mem_append_right _ hb) e.symm
  · rcases List.mem_append.mp hb with hb | hb
    · rw [List.mem_singleton.mp hb]
      exact h x (List.mem_append_left _ hx)
    · exact h3 x hx b (List.mem_append_right _ hb)
end Mine
namespace Mine
theorem mem_twice {α : Type} {R : List α} {r q z : α} : z ∈ R ++ [r, q, r] ↔ z ∈ R ++ [r, q] := by
  simp only [List.mem_append, List.mem_cons, List.not_mem_nil, or_false]
  constructor
  · rintro (h | h | h | h)
    · exact .inl h
    · exact .inr (.inl h)
    · exact .inr (.inr h)
    · exact .inr (.inl h)
  · rintro (h | h | h)
    · exact .inl h
    · exact .inr (.inl h)
    · exact .inr (.inr (.inl h))
end Mine
end
/-! part Tidy -/
section
open PySem PySem.W PyProof.Rows PySem.Spec PySem.Calls
set_option maxRecDepth 100000
set_option maxHeartbeats 8000000
set_option hygiene false
namespace Mine
local macro_rules | `(tactic| walk_at "m enter") => `(tactic| (refine' code_defC ?k1 ?k2 ?k3 ?k4 ?k5 ?kA ?kF ?kK ?k6 ?k7 ?k8 ?k9 ?kB ?kD ?_ ?c2 ?c3 ?c4; (case kA => exact rfl); (case kF => exact rfl); (case kK => first | exact rfl | assumption); (case k1 => k_asm); (case k2 => k_asm); (case k3 => k_asm); (case k4 => k_asm); (case k5 => k_asm); (case k6 => k_is); (case k7 => k_is); (case k8 => ktr_room); (case k9 => first | exact BindsTo.of_eq rfl | exact binds_K (by k_in) rfl (by k_is) rfl rfl rfl | fail "k_enter: no rule for these arguments"); (case kB => exact rfl); (case kD => decide +kernel); (case c2 => exact rfl); (case c3 => exact rfl); (case c4 => exact rfl); k_whole; intro g' L' h' tk' cells' FG' F' N' Y' B' X' T' l1; (try k_lt l1); k_cells Y'; (try simp only [List.cons_append, List.nil_append] at N')))

theorem tidy_call {w : World} {dp un : Nat} {gd : Option (List Code)} {cn : Str} {cs : Scope} {a : Addr} {ccd : Value} {cl : List (Str × Addr)} {outer : List Env} {A₀ : Around} {base h₀ : Heap} {L : Addr} {m : Str → Option Value}
   {s : Shared} {mean : ExcName → Option Value} {mg mb : Str → Option Value} {Q E : Value → Shared → Prop}
   (B : Below A₀ base outer h₀) (F : Fr h₀ L s.heap m) (X : (Mine.hd.heap_39 w.params).In h₀) {news : List (Addr × Obj)} (N : News h₀ L s.heap news) (T : Top Mine.hd.view_39 (looseW Mine.hd.view_39 []) mean mg mb h₀) (hk : cs.kind = .function) (hd : dp + 10 < recursionLimit) (hu : un + 200 < cLine)
   {R : List (Addr × Obj)} (hR0 : ∀ p ∈ R, p ∈ news) {l : Addr} {items : Array Value} {c : Nat} {rs : List (List Int)} (hl : (l, listOf items c) ∈ news) (hq : F2 (RowIn R) items.toList rs) (hn : rs.length < 60)
   (hret : ∀ D us c ts h' tk, Fr h₀ L h' m → News h₀ L h' ((D, listOf (List.toArray us) c) :: news) → (∀ q ∈ news, q.1 < D) → F2 (RowIn R) us ts → Canon ts rs → ts.length ≤ rs.length → Q (.ref D) { s with heap := h', toks := tk }) :
   wpAny (model PySem.Challenge.rw_ad6014_01.row.prog w) (ktrTop dp un gd cn cs L a ccd cl outer) (call (.ref 108) [.ref l]) Q E s := by
  revert X; k_fill; intro X
  refine wpAny_call ?_
  k_dflt ktr_enter
  k_steps
  rename Fr _ _ _ _ => F1
  rename News _ _ _ _ => N1
  refine sorted_listN (R := R) (fun p hp => .tail _ (hR0 p hp)) (by first | assumption | (simp [ktrTop]; omega)) F1 N1 (List.mem_cons_of_mem _ hl) hq hn fun D us qs c2 h2 tk2 Fa Na hD hq2 hp hs => ?_
  have hq3 : F2 (RowIn R) us qs := hq2
  refine iter_fill (fun i vs T => F2 (RowIn R) vs (tidyL (qs.take i))) rfl Fa Na (Nat.ne_of_gt (hD _ List.mem_cons_self)) (fun q hq => Nat.ne_of_lt ((by assumption : ∀ q ∈ news, q.1 < _) q hq)) .nil (fun _ _ _ _ h k => h) (fun _ _ _ _ _ _ n a b h => h) ?_ ?_
  · clear F1 N1
    intro i v vs n TT h3 tk3 hv hsub hoff hI Fb Nb
    have hT : ∀ p ∈ news, p ∈ TT := fun p hp => hsub p (.tail _ hp)
    have hlen : vs.length < 60 := by
      have h1 := hI.length
      have h2 := tidyL_length (qs.take i)
      have h3 := hp.length_eq
      rw [List.length_take] at h2
      omega
    obtain ⟨r, hr, hvr⟩ := hq3.get hv
    have htk : tidyL (qs.take (i + 1)) = tidyStep (tidyL (qs.take i)) r := by rw [List.take_add_one, hr]; exact tidyL_snoc _ _
    k_steps
    rename Fr _ _ _ _ => Fc
    rename News _ _ _ _ => Nc
    refine eq_listsN Nc (.tail _ (.head _)) (.head _) (F2.rows (fun p hp => sub2 p (hT p (hR0 p hp))) hI) .nil (by simp [ktrTop]; omega) ?_
    k_whole
    by_cases hg : tidyL (qs.take i) = []
    · rw [decide_eq_true hg]
      k_steps
      rename Fr _ _ _ _ => Fd
      rename News _ _ _ _ => Nd
      refine RowsEnd.intro (vs ++ [v], n + 1) TT Fd (fun p hp => Nd p ?_) (fun _ h => h) hoff (fun z h1 _ => if_neg h1) ?_
      · rcases List.mem_cons.mp hp with rfl | hp
        · simp
        · exact sub2 p hp
      · rw [htk]
        unfold tidyStep
        rw [if_neg (by rw [hg]; simp)]
        exact hI.snoc hvr
    · rw [decide_eq_false hg]
      k_steps
      rename Fr _ _ _ _ => Fd
      rename News _ _ _ _ => Nd
      obtain ⟨gs, g, hgs⟩ : ∃ gs g, tidyL (qs.take i) = gs ++ [g] := ⟨_, _, (List.dropLast_concat_getLast hg).symm⟩
      obtain ⟨v', hv', hgv⟩ : ∃ v', vs[vs.length - 1]? = some v' ∧ RowIn R v' g := by
        have hl := hI.length
        obtain ⟨v', h1, h2⟩ := hI.getR (i := vs.length - 1) (b := g) (by rw [hl, hgs]; simp)
        exact ⟨v', h1, h2⟩
      have hpos : 0 < vs.length := by
        have hl := hI.length
        rw [hgs] at hl
        simp at hl; omega
      refine kim_back Nd (.tail _ (.head _)) rfl rfl (by decide) (by omega) (by decide) (x := v') (by rw [← hv']; congr 1; omega) ?_
      k_steps
      rename Fr _ _ _ _ => Fe
      rename News _ _ _ _ => Ne
      refine ne_rowsN Ne (hgv.mono fun p hp => sub2 p (hT p (hR0 p hp))) (hvr.mono fun p hp => sub2 p (hT p (hR0 p hp))) (by simp [ktrTop]; omega) ?_
      by_cases hgr : g = r
      · rw [decide_eq_false (by simpa using hgr)]
        k_steps
        rename Fr _ _ _ _ => Fd
        rename News _ _ _ _ => Nd
        refine RowsEnd.intro (vs, n) TT Fd (fun p hp => Nd p ?_) (fun _ h => h) hoff (fun z h1 _ => if_neg h1) ?_
        · exact sub1 p hp
        · rw [htk]
          unfold tidyStep
          rw [if_pos (by rw [hgs, hgr]; simp)]
          exact hI
      · rw [decide_eq_true hgr]
        k_steps
        rename Fr _ _ _ _ => Fd
        rename News _ _ _ _ => Nd
        refine RowsEnd.intro (vs ++ [v], n + 1) TT Fd (fun p hp => Nd p ?_) (fun _ h => h) hoff (fun z h1 _ => if_neg h1) ?_
        · rcases List.mem_cons.mp hp with rfl | hp
          · simp
          · exact sub2 p hp
        · rw [htk]
          unfold tidyStep
          rw [if_neg (by rw [hgs]; simpa using hgr)]
          exact hI.snoc hvr
  · clear F1 N1
    intro vs n u TT h3 tk3 hsub hoff hI Fb Nb
    k_steps
    rename Fr _ _ _ _ => Fd
    rename News _ _ _ _ => Nd
    have hql : us.length = qs.length := hq3.length
    rw [hql, List.take_length] at hI
    refine hret _ vs n _ _ _ Fd (fun p hp => Nd p ?_) (by assumption) hI ((tidy_canon hs).same fun r => hp.mem_iff) (Nat.le_trans (tidyL_length _) (Nat.le_of_eq hp.length_eq))
    rcases List.mem_cons.mp hp with rfl | hp
    · exact .head _
    · exact .tail _ (hsub p (.tail _ hp))
end Mine
end
/-! part Count -/
section
open PySem PySem.W PyProof.Rows PySem.Spec PySem.Calls
set_option maxRecDepth 100000
set_option maxHeartbeats 8000000
set_option hygiene false
namespace Mine

def cntC (rs : List (List Int)) (r : List Int) (b : Int) : Bool := match rs[b.toNat]? with | some x => decide (x ≤ r) | none => false
theorem cnt_nat {r : List Int} : ∀ (rs : List (List Int)) (k : Nat), Sorted rs → (∀ j, j < k → cntC rs r (j : Nat) = true) → cntC rs r (k : Nat) = false → k = (rs.filter fun x => decide (x ≤ r)).length
  | [], k, _, h, _ => by
    cases k with
    | zero => rfl
    | succ k => exact absurd (h 0 (Nat.succ_pos _)) (by simp [cntC])
  | x :: rs, k, hs, h, hk => by
    have hs' := List.pairwise_cons.mp hs
    by_cases hx : x ≤ r
    · cases k with
      | zero => simp [cntC, hx] at hk
      | succ k =>
        rw [List.filter_cons_of_pos (by simpa using hx), List.length_cons]
        rw [← cnt_nat rs k hs'.2 (fun j hj => by simpa [cntC] using h (j + 1) (by omega)) (by simpa [cntC] using hk)]
    · have hnil : ((x :: rs).filter fun y => decide (y ≤ r)) = [] := by
        rw [List.filter_eq_nil_iff]
        intro y hy
        rcases List.mem_cons.mp hy with rfl | hy
        · simpa using hx
        · have := hs'.1 y hy
          simp only [decide_eq_true_eq]
          exact fun hyr => hx (List.le_trans this hyr)
      rw [hnil]
      cases k with
      | zero => rfl
      | succ k =>
        have := h 0 (Nat.succ_pos _)
        simp [cntC] at this
        exact absurd this hx
theorem cnt_int {r : List Int} {rs : List (List Int)} {k : Int} (hs : Sorted rs) (h0 : 0 ≤ k) (h : ∀ j, 0 ≤ j → j < k → cntC rs r j = true) (hk : cntC rs r k = false) : k = ((rs.filter fun x => decide (x ≤ r)).length : Nat) := by
  obtain ⟨n, rfl⟩ := Int.eq_ofNat_of_zero_le h0
  rw [← cnt_nat rs n hs (fun j hj => h j (by omega) (by omega)) hk]

theorem count_call {w : World} {dp un : Nat} {gd : Option (List Code)} {cn : Str} {cs : Scope} {a : Addr} {ccd : Value} {cl : List (Str × Addr)} {outer : List Env} {A₀ : Around} {base h₀ : Heap} {L : Addr} {m : Str → Option Value}
   {s : Shared} {mean : ExcName → Option Value} {mg mb : Str → Option Value} {Q E : Value → Shared → Prop}
   (B : Below A₀ base outer h₀) (F : Fr h₀ L s.heap m) (X : (Mine.hd.heap_39 w.params).In h₀) {news : List (Addr × Obj)} (N : News h₀ L s.heap news) (T : Top Mine.hd.view_39 (looseW Mine.hd.view_39 []) mean mg mb h₀) (hk : cs.kind = .function) (hd : dp + 10 < recursionLimit) (hu : un + 200 < cLine)
   {l : Addr} {vs : List Value} {c : Nat} {rs : List (List Int)} {v : Value} {r : List Int} (hl : (l, listOf vs.toArray c) ∈ news) (hq : F2 (RowIn news) vs rs) (hn : rs.length < 60) (hv : RowIn news v r) (hs : Sorted rs)
   (hret : ∀ h' tk t, Fr h₀ L h' m → News h₀ L h' news → Q (.int (rs.filter fun x => decide (x ≤ r)).length t) { s with heap := h', toks := tk }) :
   wpAny (model PySem.Challenge.rw_ad6014_01.row.prog w) (ktrTop dp un gd cn cs L a ccd cl outer) (call (.ref 115) [.ref l, v]) Q E s := by
  revert X; k_fill; intro X
  refine wpAny_call ?_
  k_dflt ktr_enter
  k_steps
  case c b => exact cntC rs r b
  case K => exact ((rs.length : Nat) : Int)
  case stop => exact ⟨by omega, by simp [cntC]⟩
  case gtest k t h1 tk1 hk0 Fg Ng Mg =>
    k_steps
    refine PySem.W.KM.len_K (n := rs.length) Ng hl (by rw [List.size_toArray]; exact hq.length) (by omega) ?_
    k_steps
    · rename News _ _ _ _ => Nd
      rename k < _ => hkl
      have hkn : k.toNat < rs.length := by omega
      obtain ⟨x, hx, hxr⟩ := hq.getR (i := k.toNat) (b := rs[k.toNat]) (by simp [hkn])
      refine kim_list Nd hl rfl rfl hk0 (by omega) hx ?_
      k_steps
      rename News _ _ _ _ => Ne
      refine le_rowsN Ne hxr hv (by simp [ktrTop]; omega) ?_
      have hc : cntC rs r k = decide (rs[k.toNat] ≤ r) := by simp [cntC, hkn]
      rw [← hc]
      cases cntC rs r k
      · k_steps
      · k_steps
    · rename ¬ k < _ => hkl
      exact ⟨by unfold cntC; rw [List.getElem?_eq_none (by omega)], _, _, rfl, fun _ _ e => e⟩
  rename ∀ j, (0:Int) ≤ j → j < _ → cntC rs r j = true => hall
  rename cntC rs r _ = false => hck
  have e := cnt_int hs (by assumption) hall hck
  subst e
  exact hret _ _ _ (by assumption) (by assumption)
end Mine
end
/-! part Make -/
section
open PySem PySem.W PyProof.Rows PySem.Spec PySem.Calls
set_option maxRecDepth 100000
set_option maxHeartbeats 8000000
set_option hygiene false
namespace Mine

theorem make_call {w : World} {dp un : Nat} {gd : Option (List Code)} {cn : Str} {cs : Scope} {a : Addr} {ccd : Value} {cl : List (Str × Addr)} {outer : List Env} {A₀ : Around} {base h₀ : Heap} {L : Addr} {m : Str → Option Value}
   {s : Shared} {mean : ExcName → Option Value} {mg mb : Str → Option Value} {Q E : Value → Shared → Prop}
   (B : Below A₀ base outer h₀) (F : Fr h₀ L s.heap m) (X : (Mine.hd.heap_39 w.params).In h₀) {news : List (Addr × Obj)} (N : News h₀ L s.heap news) (T : Top Mine.hd.view_39 (looseW Mine.hd.view_39 []) mean mg mb h₀) (hk : cs.kind = .function) (hd : dp + 10 < recursionLimit) (hu : un + 200 < cLine)
   {R : List (Addr × Obj)} (hR0 : ∀ p ∈ R, p ∈ news) {l : Addr} {vs : List Value} {c : Nat} {rs : List (List Int)} (hl : (l, listOf vs.toArray c) ∈ news) (hq : F2 (RowIn R) vs rs) (hn : rs.length < 60)
   (hret : ∀ x d D us ts c n t h' tk, Fr h₀ L h' m → News h₀ L h' ((D, listOf (List.toArray us) c) :: (x, instObj 92 d) :: (d, itemsD w D t n) :: news) → x < D → d < x → (∀ q ∈ news, q.1 < d) → F2 (RowIn R) us ts → Canon ts rs → ts.length ≤ rs.length → Q (.ref x) { s with heap := h', toks := tk }) :
   wpAny (model PySem.Challenge.rw_ad6014_01.row.prog w) (ktrTop dp un gd cn cs L a ccd cl outer) (call (.ref 92) [.ref l]) Q E s := by
  revert X; k_fill; intro X
  k_dflt (refine' call_cls ?k1 ?k2 ?k3 ?k4 ?k5 ?k6 ?_; (case k1 => k_asm); (case k2 => k_asm); (case k3 => k_asm); (case k4 => k_is); (case k5 => k_is); (case k6 => k_is); k_whole; intro x' d' h' F' N' l1 l2; have hl0 := l1; have hl2 := l2; (try k_lt l1); (try k_lt2 l2))
  k_dflt ktr_enter
  k_steps
  rename Fr _ _ _ _ => Fa
  rename News _ _ _ _ => Na
  refine set_N (R := R) (fun p hp => sub2 p (hR0 p hp)) rfl (by show (Around.deeper _ _).units + 10 < cLine; simp only [Around.deeper_units, units_make, ktrTop]; omega) Fa Na (sub2 _ hl) (by simpa using hq) hn fun S o h1 tk1 qs Fb Nb hS hR hm hlen hnd => ?_
  have hS0 := hS
  k_lt hS
  k_steps
  rename Fr _ _ _ _ => Fc
  rename News _ _ _ _ => Nc
  refine sorted_setN rfl (by show (Around.deeper _ _).units + 10 < cLine; simp only [Around.deeper_units, units_make, ktrTop]; omega) Fc Nc (.head _) hR (fun v r h => h.mono fun p hp => sub3 p (hR0 p hp)) (by omega) fun D us ts c2 h2 tk2 Fd Nd hD hq2 hp hs => ?_
  have hD0 := hD
  k_lt hD
  k_steps
  rename Fr _ _ _ _ => Fe
  rename News _ _ _ _ => Ne
  obtain ⟨_, _, _, hex, _⟩ := hR
  refine hret x' d' D us ts c2 _ _ _ _ Fe (cut2 Ne) (hD0 _ (.tail _ (.head _))) hl2 hl0 hq2 (Canon.of_sorted hs (hp.nodup_iff.mpr hnd) fun r => hp.mem_iff.trans (hm r)) (Nat.le_trans (Nat.le_of_eq hp.length_eq) hlen)
end Mine
end
/-! part Upd -/
section
open PySem PySem.W PyProof.Rows PySem.Spec PySem.Calls
set_option maxRecDepth 100000
set_option maxHeartbeats 8000000
set_option hygiene false
namespace Mine

theorem upd_call {w : World} {dp un : Nat} {gd : Option (List Code)} {cn : Str} {cs : Scope} {a : Addr} {ccd : Value} {cl : List (Str × Addr)} {outer : List Env} {A₀ : Around} {base h₀ : Heap} {L : Addr} {m : Str → Option Value}
   {s : Shared} {mean : ExcName → Option Value} {mg mb : Str → Option Value} {Q E : Value → Shared → Prop} {x d D : Addr} {us : List Value} {c n : Nat} {t : Tok} {ts : List (List Int)} {TT : List (Addr × Obj)}
   (B : Below A₀ base outer h₀) (F : Fr h₀ L s.heap m) (X : (Mine.hd.heap_39 w.params).In h₀) (N : News h₀ L s.heap ((x, instObj 92 d) :: (d, itemsD w D t n) :: (D, listOf (List.toArray us) c) :: TT)) (T : Top Mine.hd.view_39 (looseW Mine.hd.view_39 []) mean mg mb h₀) (hk : cs.kind = .function) (hd : dp + 10 < recursionLimit) (hu : un + 200 < cLine)
   (hdx : @LT.lt Nat instLTNat d x) (hdD : @LT.lt Nat instLTNat d D) (hoff : OwnOff TT [d]) {R : List (Addr × Obj)} (hR0 : ∀ p ∈ R, p ∈ TT) (hts : F2 (RowIn R) us ts)
   {l : Addr} {vs : List Value} {c1 : Nat} {rs : List (List Int)} (hl : (l, listOf (List.toArray vs) c1) ∈ TT) (hq : F2 (RowIn R) vs rs) (hn : ts.length + rs.length < 60)
   (hret : ∀ D' us' ts' c' n' t' h' tk, Fr h₀ L h' m → News h₀ L h' ((D', listOf (List.toArray us') c') :: (x, instObj 92 d) :: (d, itemsD w D' t' n') :: (D, listOf (List.toArray us) c) :: TT) → x < D' → d < D' → (∀ q ∈ TT, q.1 < D') → F2 (RowIn R) us' ts' → Canon ts' (ts ++ rs) → ts'.length ≤ ts.length + rs.length → Q .none { s with heap := h', toks := tk }) :
   wpAny (model PySem.Challenge.rw_ad6014_01.row.prog w) (ktrTop dp un gd cn cs L a ccd cl outer) (call (.ref 89) [.ref x, .ref l]) Q E s := by
  revert X; k_fill; intro X
  refine wpAny_call ?_
  k_dflt ktr_enter
  k_steps
  rename Fr _ _ _ _ => Fa
  rename News _ _ _ _ => Na
  have hlu := hts.length
  have hlv := hq.length
  refine add_rowsN Fa Na (by k_mem) (sub3 _ hl) (by omega) fun D1 h1 Fb Nb hD1 => ?_
  have hD10 := hD1
  k_lt hD1
  k_steps
  rename Fr _ _ _ _ => Fc
  rename News _ _ _ _ => Nc
  have hboth := hts.append hq
  refine set_N (R := R) (qs := ts ++ rs) (fun p hp => sub4 p (hR0 p hp)) rfl (by show (Around.deeper _ _).units + 10 < cLine; simp only [Around.deeper_units, ktrTop]; omega) Fc Nc (.head _) (by simpa using hboth) (by rw [List.length_append]; omega) fun S o h2 tk2 qs Fd Nd hS hR hm hlen hnd => ?_
  k_lt hS
  k_steps
  rename Fr _ _ _ _ => Fe
  rename News _ _ _ _ => Ne
  refine sorted_setN rfl (by show (Around.deeper _ _).units + 10 < cLine; simp only [Around.deeper_units, ktrTop]; omega) Fe Ne (.head _) hR (fun v r h => h.mono fun p hp => sub5 p (hR0 p hp)) (by rw [List.length_append] at hlen; omega) fun D' us' ts' c' h3 tk3 Ff Nf hD' hq2 hp hs => ?_
  have hD0 := hD'
  k_lt hD'
  k_steps
  refine' set_dict (es' := [{ hash := PyData.keyHash w.params (Str.ofString "_items"), key := .str (Str.ofString "_items") t, val := .ref D' }]) (n' := n) ?k1 ?k2 ?k3 ?k4 ?k5 ?k6 ?k7 ?k8 ?k9 ?k10 ?k11 ?k12 ?k13 ?_; (case k1 => k_asm); (case k2 => k_asm); (case k3 => k_asm); (case k4 => k_inst); (case k5 => exact rfl); (case k6 => k_is); (case k7 => k_is); (case k8 => k_is); (case k9 => k_is); (case k10 => k_get); (case k11 => exact rfl); (case k12 => have hoff2 := hoff; k_upd); (case k13 => exact Nat.le_of_ble_eq_true rfl); k_whole; intro h' F' N'
  k_steps
  rename Fr _ _ _ _ => Fg
  rename News _ _ _ _ => Ng
  obtain ⟨_, _, _, hex, _⟩ := hR
  refine hret D' us' ts' c' _ _ _ _ Fg (cut2 (cut2 Ng)) (hD0 (x, instObj 92 d) (by simp)) (hD0 (d, itemsD w D t n) (by simp)) (fun q hq => hD0 q (by simp [hq])) hq2 (Canon.of_sorted hs (hp.nodup_iff.mpr hnd) fun r => hp.mem_iff.trans (hm r)) ?_
  · have h1 := hp.length_eq
    rw [List.length_append] at hlen
    omega
end Mine
end
/-! part Bis -/
section
open PySem PySem.W PyProof.Rows PySem.Spec PySem.Calls
set_option maxRecDepth 100000
set_option maxHeartbeats 8000000
set_option hygiene false
namespace Mine
local macro_rules | `(tactic| walk_at "m enter") => `(tactic| (refine' code_defC ?k1 ?k2 ?k3 ?k4 ?k5 ?kA ?kF ?kK ?k6 ?k7 ?k8 ?k9 ?kB ?kD ?_ ?c2 ?c3 ?c4; (case kA => exact rfl); (case kF => exact rfl); (case kK => first | exact rfl | assumption); (case k1 => k_asm); (case k2 => k_asm); (case k3 => k_asm); (case k4 => k_asm); (case k5 => k_asm); (case k6 => k_is); (case k7 => k_is); (case k8 => ktr_room); (case k9 => first | exact BindsTo.of_eq rfl | exact binds_K (by k_in) rfl (by k_is) rfl rfl rfl | fail "k_enter: no rule for these arguments"); (case kB => exact rfl); (case kD => decide +kernel); (case c2 => exact rfl); (case c3 => exact rfl); (case c4 => exact rfl); k_whole; intro g' L' h' tk' cells' FG' F' N' Y' B' X' T' l1; (try k_lt l1); k_cells Y'; (try simp only [List.cons_append, List.nil_append] at N')))

local macro_rules | `(tactic| walk_at "eval ListComp") => `(tactic| (refine Hold.keep ?_))

theorem bis_call {w : World} {dp un : Nat} {gd : Option (List Code)} {cn : Str} {cs : Scope} {a : Addr} {ccd : Value} {cl : List (Str × Addr)} {outer : List Env} {A₀ : Around} {base h₀ : Heap} {L : Addr} {m : Str → Option Value}
   {s : Shared} {mean : ExcName → Option Value} {mg mb : Str → Option Value} {Q E : Value → Shared → Prop} {x d D : Addr} {us : List Value} {c n : Nat} {t : Tok} {ts : List (List Int)} {TT : List (Addr × Obj)}
   (B : Below A₀ base outer h₀) (F : Fr h₀ L s.heap m) (X : (Mine.hd.heap_39 w.params).In h₀) (N : News h₀ L s.heap ((x, instObj 92 d) :: (d, itemsD w D t n) :: (D, listOf (List.toArray us) c) :: TT)) (T : Top Mine.hd.view_39 (looseW Mine.hd.view_39 []) mean mg mb h₀) (hk : cs.kind = .function) (hd : dp + 10 < recursionLimit) (hu : un + 200 < cLine)
   (hts : F2 (RowIn TT) us ts) (hn : ts.length < 60) {v : Value} {r : List Int} (hv : RowIn TT v r)
   (hret : ∀ h' tk t', Fr h₀ L h' m → News h₀ L h' ((x, instObj 92 d) :: (d, itemsD w D t n) :: (D, listOf (List.toArray us) c) :: TT) → Q (.int (ts.filter fun y => decide (y ≤ r)).length t') { s with heap := h', toks := tk }) :
   wpAny (model PySem.Challenge.rw_ad6014_01.row.prog w) (ktrTop dp un gd cn cs L a ccd cl outer) (call (.ref 68) [.ref x, v]) Q E s := by
  revert X; k_fill; intro X
  refine wpAny_call ?_
  k_dflt (walk_at "m enter")
  k_steps
  refine Hold.out ?_
  refine LCt.ListComp_T (F₀ := by k_asm) (by with_unfolding_all rfl) (by decide) (by rfl) (by decide) (by rfl) ?_
  k_steps
  rename Fr _ _ _ _ => Fa
  rename News _ _ _ _ => Na
  have hlu := hts.length
  refine LCt.CompSrcT.ledger rfl Fa Na (by k_mem) (by rw [List.size_toArray, sizeLine_eq]; omega) fun g => ?_
  refine compT_rows (fun y => decide (y ≤ r)) hts ?_ ?_ ?_ ?_
  · exact .inr ⟨_, (by k_mem : (D, listOf (List.toArray us) c) ∈ _), rfl, _, rfl⟩
  · intro u q I oI C oC D' m₂ h tk E' ys hu' hC hx Fb Nb off ne
    k_steps
    rename Fr _ _ _ _ => Fc
    rename News _ _ _ _ => Nc
    refine le_rowsN Nc (hu'.mono fun p hp => ?_) (hv.mono fun p hp => ?_) (by show (Around.deeper _ _).units < cLine; simp only [Around.deeper_units, ktrTop]; omega) ?_
    · repeat' first | exact hp | refine List.Mem.tail _ ?_
    · repeat' first | exact hp | refine List.Mem.tail _ ?_
    cases hqr : decide (q ≤ r)
    · k_steps
      all_goals first | rfl | exact ⟨_, _, rfl, Fc, Nc⟩
    · k_steps
      all_goals first | rfl | exact ⟨_, _, rfl, Fc, Nc⟩
  · intro u I oI C oC D' m₂ h tk E' ys hC hx Fb Nb off ne
    k_steps
    all_goals first | rfl | exact ⟨_, _, rfl, Fb, Nb⟩
  · intro ys hy D' h tk Fb Nb off
    k_steps
    refine PySem.W.KM.len_K (n := ys.length) Nb (.head _) (by rw [List.size_toArray]) ?_ ?_
    · have h1 := hy.length
      have h2 := List.length_filter_le (fun y => decide (y ≤ r)) ts
      omega
    k_steps
    rename Fr _ _ _ _ => Fd
    rename News _ _ _ _ => Nd
    rw [hy.length]
    exact hret _ _ _ Fd (cut1 (cut1 Nd))
end Mine
end
/-! part Has -/
section
open PySem PySem.W PyProof.Rows PySem.Spec PySem.Calls
set_option maxRecDepth 100000
set_option maxHeartbeats 8000000
set_option hygiene false
namespace Mine

theorem has_call {w : World} {dp un : Nat} {gd : Option (List Code)} {cn : Str} {cs : Scope} {a : Addr} {ccd : Value} {cl : List (Str × Addr)} {outer : List Env} {A₀ : Around} {base h₀ : Heap} {L : Addr} {m : Str → Option Value}
   {s : Shared} {mean : ExcName → Option Value} {mg mb : Str → Option Value} {Q E : Value → Shared → Prop} {x d D : Addr} {us : List Value} {c n : Nat} {t : Tok} {ts : List (List Int)} {TT : List (Addr × Obj)}
   (B : Below A₀ base outer h₀) (F : Fr h₀ L s.heap m) (X : (Mine.hd.heap_39 w.params).In h₀) (N : News h₀ L s.heap ((x, instObj 92 d) :: (d, itemsD w D t n) :: (D, listOf (List.toArray us) c) :: TT)) (T : Top Mine.hd.view_39 (looseW Mine.hd.view_39 []) mean mg mb h₀) (hk : cs.kind = .function) (hd : dp + 10 < recursionLimit) (hu : un + 200 < cLine)
   (hts : F2 (RowIn TT) us ts) (hn : ts.length < 60) {av : Addr} {r : List Int} (hv : RowIn TT (.ref av) r)
   (hret : ∀ h' tk, Fr h₀ L h' m → News h₀ L h' ((x, instObj 92 d) :: (d, itemsD w D t n) :: (D, listOf (List.toArray us) c) :: TT) → Q (.bool (decide (r ∈ ts))) { s with heap := h', toks := tk }) :
   wpAny (model PySem.Challenge.rw_ad6014_01.row.prog w) (ktrTop dp un gd cn cs L a ccd cl outer) (compareOp .In (.ref av) (.ref x)) Q E s := by
  revert X; k_fill; intro X
  walk1
  refine wpAny_call ?_
  k_dflt ktr_enter
  k_steps
  rename Fr _ _ _ _ => Fa
  rename News _ _ _ _ => Na
  refine in_rowsN Na (by k_mem) (F2.rows sub3 hts) (hv.mono sub3) (by show (Around.deeper _ _).units + 64 < cLine; simp only [Around.deeper_units, ktrTop]; omega) ?_
  k_steps
  exact hret _ _ (by assumption) (by assumption)

theorem eq_call {w : World} {dp un : Nat} {gd : Option (List Code)} {cn : Str} {cs : Scope} {a : Addr} {ccd : Value} {cl : List (Str × Addr)} {outer : List Env} {A₀ : Around} {base h₀ : Heap} {L : Addr} {m : Str → Option Value}
   {s : Shared} {mean : ExcName → Option Value} {mg mb : Str → Option Value} {Q E : Value → Shared → Prop} {x d D x1 d1 D1 : Addr} {us us1 : List Value} {c n c1 n1 : Nat} {t t1 : Tok} {ts ts1 : List (List Int)} {TT : List (Addr × Obj)}
   (B : Below A₀ base outer h₀) (F : Fr h₀ L s.heap m) (X : (Mine.hd.heap_39 w.params).In h₀) (N : News h₀ L s.heap ((x, instObj 92 d) :: (d, itemsD w D t n) :: (D, listOf (List.toArray us) c) :: (x1, instObj 92 d1) :: (d1, itemsD w D1 t1 n1) :: (D1, listOf (List.toArray us1) c1) :: TT)) (T : Top Mine.hd.view_39 (looseW Mine.hd.view_39 []) mean mg mb h₀) (hk : cs.kind = .function) (hd : dp + 10 < recursionLimit) (hu : un + 200 < cLine)
   (hts : F2 (RowIn TT) us ts) (hts1 : F2 (RowIn TT) us1 ts1)
   (hret : ∀ h' tk, Fr h₀ L h' m → News h₀ L h' ((x, instObj 92 d) :: (d, itemsD w D t n) :: (D, listOf (List.toArray us) c) :: (x1, instObj 92 d1) :: (d1, itemsD w D1 t1 n1) :: (D1, listOf (List.toArray us1) c1) :: TT) → Q (.bool (decide (ts = ts1))) { s with heap := h', toks := tk }) :
   wpAny (model PySem.Challenge.rw_ad6014_01.row.prog w) (ktrTop dp un gd cn cs L a ccd cl outer) (compareOp .Eq (.ref x) (.ref x1)) Q E s := by
  revert X; k_fill; intro X
  refine cmp_ofEq ?_
  k_dflt (refine' cmp_K ?k1 ?k2 ?k3 ?k4 ?k5 ?k6 ?k7 ?k8 ?_; (case k1 => simp only [ktrTop]; omega); (case k2 => k_asm); (case k3 => k_asm); (case k4 => k_inst); (case k5 => k_typeOf); (case k6 => k_is); (case k7 => k_is); (case k8 => k_is); k_whole)
  refine wpAny_call ?_
  k_dflt ktr_enter
  k_steps
  rename Fr _ _ _ _ => Fa
  rename News _ _ _ _ => Na
  refine eq_listsN Na (by k_mem) (by k_mem) (F2.rows sub6 hts) (F2.rows sub6 hts1) (by show (Around.deeper _ _).units + 64 < cLine; simp only [Around.deeper_units, ktrTop]; omega) ?_
  k_steps
  exact hret _ _ (by assumption) (by assumption)

theorem eqL_call {w : World} {dp un : Nat} {gd : Option (List Code)} {cn : Str} {cs : Scope} {a : Addr} {ccd : Value} {cl : List (Str × Addr)} {outer : List Env} {A₀ : Around} {base h₀ : Heap} {L : Addr} {m : Str → Option Value}
   {s : Shared} {mean : ExcName → Option Value} {mg mb : Str → Option Value} {Q E : Value → Shared → Prop} {x d D x1 : Addr} {us us1 : List Value} {c n c1 : Nat} {t : Tok} {TT : List (Addr × Obj)}
   (B : Below A₀ base outer h₀) (F : Fr h₀ L s.heap m) (X : (Mine.hd.heap_39 w.params).In h₀) (N : News h₀ L s.heap ((x, instObj 92 d) :: (d, itemsD w D t n) :: (D, listOf (List.toArray us) c) :: (x1, listOf (List.toArray us1) c1) :: TT)) (T : Top Mine.hd.view_39 (looseW Mine.hd.view_39 []) mean mg mb h₀) (hk : cs.kind = .function) (hd : dp + 10 < recursionLimit) (hu : un + 200 < cLine)
   (hret : ∀ h' tk, Fr h₀ L h' m → News h₀ L h' ((x, instObj 92 d) :: (d, itemsD w D t n) :: (D, listOf (List.toArray us) c) :: (x1, listOf (List.toArray us1) c1) :: TT) → Q (.bool false) { s with heap := h', toks := tk }) :
   wpAny (model PySem.Challenge.rw_ad6014_01.row.prog w) (ktrTop dp un gd cn cs L a ccd cl outer) (compareOp .Eq (.ref x) (.ref x1)) Q E s := by
  revert X; k_fill; intro X
  refine cmp_ofEq ?_
  k_dflt (refine' cmp_K (tb := .type "list") ?k1 ?k2 ?k3 ?k4 ?k5 ?k6 ?k7 ?k8 ?_; (case k1 => simp only [ktrTop]; omega); (case k2 => k_asm); (case k3 => k_asm); (case k4 => k_inst); (case k5 => exact (Looks.ld (N _ (.tail _ (.tail _ (.tail _ (.head _))))).1).andThen .now); (case k6 => exact rfl); (case k7 => k_is); (case k8 => k_is); k_whole)
  refine wpAny_call ?_
  k_dflt ktr_enter
  k_steps
  exact hret _ _ (by assumption) (by assumption)
end Mine
end
/-! part RemL -/
section
open PySem PySem.W PyProof.Rows PySem.Spec PySem.Calls
set_option maxRecDepth 100000
namespace Mine
section
variable {prog : Program} {w : World} {A : Around} {E : Value → Shared → Prop} {s : Shared}

theorem remove_loop_rows {P : Value → List Int → Prop} {l av : Addr} {us : List Value} {ts : List (List Int)} {n j : Nat} {r : List Int} (hu : A.units + 2 < cLine) (hP : PR prog w P s.heap) (hl : s.heap.get? l = some (listOf (List.toArray us) n)) (hq : F2 P us ts) (hx : P (.ref av) r) (hn : ts.length < 60)
    (hj : ts[j]? = some r) (hno : ∀ m, m < j → ts[m]? ≠ some r) {R : Result → Shared → Prop} (h : R (.ok (.ret .none)) { s with heap := s.heap.update l (Obj.mapSeq fun xs => xs.eraseIdxIfInBounds j) }) :
    ∀ (k i : Nat), j - i = k → i ≤ j → codeAny (model prog w) A (.builtin "list.remove.loop" ⟨[.ref l, .ref av, rawInt i], []⟩) R s := by
  obtain ⟨xa, exa, hxa⟩ := hP _ _ hx
  injection exa with exa
  subst exa
  have hjl : j < ts.length := (List.getElem?_eq_some_iff.mp hj).1
  have hul := hq.length
  intro k
  induction k with
  | zero =>
    intro i hk hij
    have : i = j := by omega
    subst this
    obtain ⟨u, hu1, hu2⟩ := hq.getR hj
    obtain ⟨ua, eua, hua⟩ := hP _ _ hu2
    refine codeAny_builtin MeetsSeq.entry_remove_loop ?_
    rw [Around.under_plainId MeetsSeq.plain_remove_loop _]
    unfold Builtin.«list.remove.loop»
    refine wpAny_bind (listItems_at hl rfl ?_)
    have hi : (List.toArray us)[((i : Nat) : Int).toNat]? = some u := by simpa using hu1
    rw [hi]
    dsimp only
    subst eua
    refine wpAny_bind (wpAny_eqBool_tuple (by show A.units + 1 < cLine; omega) hua hxa ?_)
    rw [decide_eq_true rfl, if_pos rfl]
    refine wpAny_bind (listUpdate_at hl rfl ?_ (by rw [List.size_toArray, sizeLine_eq]; omega) ?_)
    · exact wpAny_pure h
    · have := MeetsSeq.size_erased (List.toArray us) ((i : Nat) : Int).toNat
      have h2 : (List.toArray us).size = us.length := List.size_toArray
      rw [sizeLine_eq]
      exact Nat.le_trans this (by omega)
  | succ k ih =>
    intro i hk hij
    have hil : i < ts.length := by omega
    obtain ⟨u, hu1, hu2⟩ := hq.getR (i := i) (b := ts[i]) (by simp [hil])
    obtain ⟨ua, eua, hua⟩ := hP _ _ hu2
    refine codeAny_builtin MeetsSeq.entry_remove_loop ?_
    rw [Around.under_plainId MeetsSeq.plain_remove_loop _]
    unfold Builtin.«list.remove.loop»
    refine wpAny_bind (listItems_at hl rfl ?_)
    have hi : (List.toArray us)[((i : Nat) : Int).toNat]? = some u := by simpa using hu1
    rw [hi]
    dsimp only
    subst eua
    refine wpAny_bind (wpAny_eqBool_tuple (by show A.units + 1 < cLine; omega) hua hxa ?_)
    have hne : ts[i] ≠ r := fun e => hno i (by omega) (by rw [← e]; simp [hil])
    rw [decide_eq_false hne, if_neg Bool.false_ne_true]
    exact wpAny_pure ⟨plainId_quiet MeetsSeq.plain_remove_loop _, ih (i + 1) (by omega) (by omega)⟩

theorem remove_rows {P : Value → List Int → Prop} {l av : Addr} {us : List Value} {ts : List (List Int)} {n j : Nat} {r : List Int} {Q : Value → Shared → Prop} (hu : A.units + 10 < cLine) (hP : PR prog w P s.heap) (hl : s.heap.get? l = some (listOf (List.toArray us) n)) (hq : F2 P us ts) (hx : P (.ref av) r) (hn : ts.length < 60)
    (hj : ts[j]? = some r) (hno : ∀ m, m < j → ts[m]? ≠ some r) (h : Q .none { s with heap := s.heap.update l (Obj.mapSeq fun xs => xs.eraseIdxIfInBounds j) }) :
    wpAny (model prog w) A (call (.builtin "list.remove") [.ref l, .ref av]) Q E s := by
  refine wpAny_call (codeAny_call_builtin PySem.F.slot_list_remove.plain PySem.F.entry_list_remove (PySem.F.slot_list_remove.check _ _ _ _ _ _ _ _ ⟨_, hl, rfl⟩ (PySem.F.args_list_remove_2 _ _) ?_))
  show wpAny _ _ (do again (.builtin "list.remove.loop" ⟨[.ref l, .ref av, rawInt 0], []⟩)) _ _ _
  refine wpAny_pure ⟨plainId_quiet MeetsSeq.plain_remove_loop _, ?_⟩
  exact remove_loop_rows (by omega) hP hl hq hx hn hj hno h _ 0 rfl (Nat.zero_le _)
end
/-- list.remove of a row that is there -/
theorem remove_rowsN {prog : Program} {w : World} {A : Around} {E : Value → Shared → Prop} {s : Shared} {h₀ : Heap} {L : Addr} {m : Str → Option Value} {news : List (Addr × Obj)} {D av : Addr} {us : List Value} {ts : List (List Int)} {n : Nat} {r : List Int} {Q : Value → Shared → Prop} {R : List (Addr × Obj)} (hR0 : ∀ p ∈ R, p ∈ news)
    (hu : A.units + 10 < cLine) (F : Fr h₀ L s.heap m) (N : News h₀ L s.heap ((D, listOf (List.toArray us) n) :: news)) (hoff : ∀ p ∈ news, p.1 ≠ D) (hq : F2 (RowIn R) us ts) (hx : RowIn R (.ref av) r) (hn : ts.length < 60) (hr : r ∈ ts)
    (h : ∀ h' us' c, Fr h₀ L h' m → News h₀ L h' ((D, listOf (List.toArray us') c) :: news) → F2 (RowIn R) us' (ts.erase r) → Q .none { s with heap := h' }) :
    wpAny (model prog w) A (call (.builtin "list.remove") [.ref D, .ref av]) Q E s := by
  have z := N _ List.mem_cons_self
  obtain ⟨j, hj, hno, hje⟩ : ∃ j, ts[j]? = some r ∧ (∀ m, m < j → ts[m]? ≠ some r) ∧ ts.erase r = ts.eraseIdx j := by
    refine ⟨ts.idxOf r, ?_, fun m hm e => ?_, List.erase_eq_eraseIdx_of_idxOf rfl⟩
    · have := List.idxOf_lt_length_iff.mpr hr
      rw [List.getElem?_eq_getElem this, List.getElem_idxOf]
    · have hml : m < ts.length := (List.getElem?_eq_some_iff.mp e).1
      have e' : ts[m] = r := by
        rw [List.getElem?_eq_getElem hml] at e
        exact Option.some.inj e
      have := List.not_of_lt_findIdx (p := (· == r)) (xs := ts) hm
      simp [e'] at this
  have hjl : j < ts.length := (List.getElem?_eq_some_iff.mp hj).1
  have hul := hq.length
  refine remove_rows hu (PR.sub N fun p hp => .tail _ (hR0 p hp)) z.1 hq hx hn hj hno ?_
  have e2 : (List.toArray us).eraseIdxIfInBounds j = List.toArray (us.eraseIdx j) := by
    apply Array.toList_inj.mp
    simp [Array.toList_eraseIdxIfInBounds]
  have e := get?_update_seq z.1 (fun xs => xs.eraseIdxIfInBounds j)
  rw [e2] at e
  have hnew : News h₀ L (s.heap.update D (Obj.mapSeq fun xs => xs.eraseIdxIfInBounds j)) ((D, listOf (List.toArray (us.eraseIdx j)) _) :: news) := fun p hp => by
    rcases List.mem_cons.mp hp with rfl | hp
    · exact ⟨e, z.2⟩
    · have z' := N p (.tail _ hp)
      exact ⟨(Heap.get?_update_ne _ _ _ _ (hoff p hp)).trans z'.1, z'.2⟩
  refine h _ (us.eraseIdx j) _ (F.change (Heap.SameBut.update ..) z.2.1 z.2.2) hnew ?_
  rw [hje, List.eraseIdx_eq_take_drop_succ, List.eraseIdx_eq_take_drop_succ]
  exact (hq.take j).append (hq.drop (j + 1))
end Mine
end
/-! part Rem -/
section
open PySem PySem.W PyProof.Rows PySem.Spec PySem.Calls
set_option maxRecDepth 100000
set_option maxHeartbeats 8000000
set_option hygiene false
namespace Mine

theorem rem_call {w : World} {dp un : Nat} {gd : Option (List Code)} {cn : Str} {cs : Scope} {a : Addr} {ccd : Value} {cl : List (Str × Addr)} {outer : List Env} {A₀ : Around} {base h₀ : Heap} {L : Addr} {m : Str → Option Value}
   {s : Shared} {mean : ExcName → Option Value} {mg mb : Str → Option Value} {Q E : Value → Shared → Prop} {x d D : Addr} {us : List Value} {c n : Nat} {t : Tok} {ts : List (List Int)} {TT : List (Addr × Obj)}
   (B : Below A₀ base outer h₀) (F : Fr h₀ L s.heap m) (X : (Mine.hd.heap_39 w.params).In h₀) (N : News h₀ L s.heap ((x, instObj 92 d) :: (d, itemsD w D t n) :: (D, listOf (List.toArray us) c) :: TT)) (T : Top Mine.hd.view_39 (looseW Mine.hd.view_39 []) mean mg mb h₀) (hk : cs.kind = .function) (hd : dp + 20 < recursionLimit) (hu : un + 300 < cLine)
   (hxD : @LT.lt Nat instLTNat x D) (hdD : @LT.lt Nat instLTNat d D) (hoff : OwnOff TT [D]) {R : List (Addr × Obj)} (hR0 : ∀ p ∈ R, p ∈ TT) (hts : F2 (RowIn R) us ts) (hn : ts.length < 60) {av : Addr} {r : List Int} (hv : RowIn R (.ref av) r)
   (hret : r ∈ ts → ∀ us' c' h' tk, Fr h₀ L h' m → News h₀ L h' ((x, instObj 92 d) :: (d, itemsD w D t n) :: (D, listOf (List.toArray us') c') :: TT) → F2 (RowIn R) us' (ts.erase r) → Q .none { s with heap := h', toks := tk })
   (hexc : r ∉ ts → ∀ g' e h' tk, Fr h₀ L g' m → g'.UpToSlots h' → RaisedN base (envX cn cs L a ccd cl :: outer) e (.type "KeyError") ((x, instObj 92 d) :: (d, itemsD w D t n) :: (D, listOf (List.toArray us) c) :: TT) h' → E (.ref e) { s with heap := h', toks := tk }) :
   wpAny (model PySem.Challenge.rw_ad6014_01.row.prog w) (ktrTop dp un gd cn cs L a ccd cl outer) (call (.ref 82) [.ref x, .ref av]) Q E s := by
  revert X; k_fill; intro X
  refine wpAny_call ?_
  k_dflt ktr_enter
  k_steps
  rename Fr _ _ _ _ => Fa
  rename News _ _ _ _ => Na
  refine notIn_rowsN Na (by k_mem) (F2.rows (fun p hp => sub3 p (hR0 p hp)) hts) (hv.mono fun p hp => sub3 p (hR0 p hp)) (by show (Around.deeper _ _).units + 64 < cLine; simp only [Around.deeper_units, ktrTop]; omega) ?_
  by_cases hr : r ∈ ts
  · rw [decide_eq_true hr]
    k_steps
    rename Fr _ _ _ _ => Fb
    rename News _ _ _ _ => Nb
    refine remove_rowsN (R := R) (fun p hp => sub2 p (hR0 p hp)) (D := D) (us := us) (ts := ts) (n := c) (news := (x, instObj 92 d) :: (d, itemsD w D t n) :: TT) (by show (Around.deeper _ _).units + 10 < cLine; simp only [Around.deeper_units, ktrTop]; omega) Fb (fun p hp => Nb p ?_) (fun p hp => ?_) hts hv hn hr fun h1 us' c' Fc Nc hq' => ?_
    · rcases List.mem_cons.mp hp with rfl | hp
      · k_mem
      · rcases List.mem_cons.mp hp with rfl | hp
        · k_mem
        · rcases List.mem_cons.mp hp with rfl | hp
          · k_mem
          · exact sub3 p hp
    · rcases List.mem_cons.mp hp with rfl | hp
      · exact Nat.ne_of_lt hxD
      · rcases List.mem_cons.mp hp with rfl | hp
        · exact Nat.ne_of_lt hdD
        · exact hoff p hp D (.head _)
    have hq2 := hq'
    k_steps
    rename Fr _ _ _ _ => Fd
    rename News _ _ _ _ => Nd
    refine hret hr us' c' _ _ Fd (fun p hp => Nd p ?_) hq2
    rcases List.mem_cons.mp hp with rfl | hp
    · k_mem
    · rcases List.mem_cons.mp hp with rfl | hp
      · k_mem
      · rcases List.mem_cons.mp hp with rfl | hp
        · k_mem
        · exact sub3 p hp
  · rw [decide_eq_false hr]
    k_steps
    exact hexc hr _ _ _ _ (by assumption) (by assumption) (by assumption)
end Mine
end
/-! part Cpy -/
section
open PySem PySem.W PyProof.Rows PySem.Spec PySem.Calls
set_option maxRecDepth 100000
set_option maxHeartbeats 8000000
set_option hygiene false
namespace Mine
local macro_rules | `(tactic| walk_at "call ref") => `(tactic| ((with_reducible show wpAny _ _ (call (Value.ref 92) _) _ _ _); refine Hold.keep ?_))

theorem cpy_call {w : World} {dp un : Nat} {gd : Option (List Code)} {cn : Str} {cs : Scope} {a : Addr} {ccd : Value} {cl : List (Str × Addr)} {outer : List Env} {A₀ : Around} {base h₀ : Heap} {L : Addr} {m : Str → Option Value}
   {s : Shared} {mean : ExcName → Option Value} {mg mb : Str → Option Value} {Q E : Value → Shared → Prop} {x d D : Addr} {us : List Value} {c n : Nat} {t : Tok} {ts : List (List Int)} {TT : List (Addr × Obj)}
   (B : Below A₀ base outer h₀) (F : Fr h₀ L s.heap m) (X : (Mine.hd.heap_39 w.params).In h₀) (N : News h₀ L s.heap ((x, instObj 92 d) :: (d, itemsD w D t n) :: (D, listOf (List.toArray us) c) :: TT)) (T : Top Mine.hd.view_39 (looseW Mine.hd.view_39 []) mean mg mb h₀) (hk : cs.kind = .function) (hd : dp + 20 < recursionLimit) (hu : un + 300 < cLine)
   {R : List (Addr × Obj)} (hR0 : ∀ p ∈ R, p ∈ TT) (hts : F2 (RowIn R) us ts) (hn : ts.length < 60)
   (hret : ∀ x' d' D' us' ts' c' n' t' h' tk, Fr h₀ L h' m → News h₀ L h' ((D', listOf (List.toArray us') c') :: (x', instObj 92 d') :: (d', itemsD w D' t' n') :: (x, instObj 92 d) :: (d, itemsD w D t n) :: (D, listOf (List.toArray us) c) :: TT) → x' < D' → d' < x' → (∀ q ∈ ((x, instObj 92 d) :: (d, itemsD w D t n) :: (D, listOf (List.toArray us) c) :: TT), q.1 < d') → F2 (RowIn R) us' ts' → Canon ts' ts → Q (.ref x') { s with heap := h', toks := tk }) :
   wpAny (model PySem.Challenge.rw_ad6014_01.row.prog w) (ktrTop dp un gd cn cs L a ccd cl outer) (call (.ref 75) [.ref x]) Q E s := by
  revert X; k_fill; intro X
  refine wpAny_call ?_
  k_dflt ktr_enter
  k_steps
  refine Hold.out ?_
  rename Fr _ _ _ _ => Fa
  rename News _ _ _ _ => Na
  rename Below _ _ _ _ => Ba
  rename Frag.In _ _ => Xa
  rename Top _ _ _ _ _ _ => Ta
  refine make_call Ba Fa Xa Na Ta rfl (by show dp + 1 + 10 < recursionLimit; omega) (by show un + 3 + 200 < cLine; omega) (R := R) (fun p hp => sub3 p (hR0 p hp)) (by k_mem) hts hn fun x' d' D' us' ts' c' n' t' h1 tk1 Fb Nb h1' h2' h3' hq hc hl => ?_
  k_steps
  exact hret x' d' D' us' ts' c' n' t' _ _ (by assumption) (by assumption) h1' h2' h3' hq hc
end Mine
end
/-! part KI -/
section
open PySem PySem.W PyProof.Rows PySem.Spec PySem.Calls
set_option maxRecDepth 100000
set_option maxHeartbeats 8000000
set_option hygiene false
namespace Mine
local macro_rules | `(tactic| walk_at "eval ListComp") => `(tactic| ((with_reducible show wpAny _ _ (eval (Expr.ListComp _ _ _ _) _) _ _ _); refine Hold.keep ?_))
local macro_rules | `(tactic| walk_at "subscriptTail") => `(tactic| ((with_reducible show wpAny _ _ (subscriptTail _ _ (Value.ref _) (Value.int _ _)) _ _ _); refine Hold.keep ?_))
local macro_rules | `(tactic| walk_at "subscriptTail Name") => `(tactic| ((with_reducible show wpAny _ _ (subscriptTail _ _ (Value.ref _) (Value.int _ _)) _ _ _); refine Hold.keep ?_))
local macro_rules | `(tactic| walk_at "CompSrc") => `(tactic| (refine Hold.keep ?_))
local macro_rules | `(tactic| walk_at "setItem ref int") => `(tactic| (refine Hold.keep ?_))
local macro_rules | `(tactic| walk_at "setItem ref int ref") => `(tactic| (refine Hold.keep ?_))
local macro_rules | `(tactic| walk_at "call ref") => `(tactic| ((with_reducible show wpAny _ _ (call (Value.ref _) _) _ _ _); refine Hold.keep ?_))
local macro_rules | `(tactic| walk_at "call type:list") => `(tactic| ((with_reducible show wpAny _ _ (call (Value.type "list") [Value.ref _]) _ _ _); refine Hold.keep ?_))
local macro_rules | `(tactic| walk_at "binaryOp Add ref ref") => `(tactic| (refine Hold.keep ?_))
local macro_rules | `(tactic| walk_at "compareOp NotEq ref ref") => `(tactic| ((with_reducible show wpAny _ _ (compareOp CmpOp.NotEq (Value.ref _) (Value.ref _)) _ _ _); refine Hold.keep ?_))
local macro_rules | `(tactic| walk_at "compareOp Eq ref ref") => `(tactic| ((with_reducible show wpAny _ _ (compareOp CmpOp.Eq (Value.ref _) (Value.ref _)) _ _ _); refine Hold.keep ?_))
local macro_rules | `(tactic| walk_at "compareOp In") => `(tactic| ((with_reducible show wpAny _ _ (compareOp CmpOp.In (Value.ref _) (Value.ref _)) _ _ _); refine Hold.keep ?_))
theorem step_if {w : World} {h₀ : Heap} {L fa : Addr} {cw : Value} {m : Str → Option Value} {s : Shared} {E : Value → Shared → Prop} {Q : Flow → Shared → Prop} {n c : Int} {t : Tok} {body orelse : List Stmt} {p1 p2 p3 p4 : Pos} {ct : Nat}
   (F : Fr h₀ L s.heap m) (hm : m (Str.ofString "kind") = some (.int n t))
   (hy : n = c → ∀ tk, wpAny (model PySem.Challenge.rw_ad6014_01.row.prog w) (callerA.deeper (lawEnv L fa cw)) (execs body (lawEnv L fa cw)) Q E { s with toks := tk })
   (hn : n ≠ c → ∀ tk, wpAny (model PySem.Challenge.rw_ad6014_01.row.prog w) (callerA.deeper (lawEnv L fa cw)) (execs orelse (lawEnv L fa cw)) Q E { s with toks := tk }) :
   wpAny (model PySem.Challenge.rw_ad6014_01.row.prog w) (callerA.deeper (lawEnv L fa cw)) (exec (.If (.Compare (.Name (Str.ofString "kind") p1) [.Eq] [.Constant (.int c) ct p2] p3) body orelse p4) (lawEnv L fa cw)) Q E s := by
  refine wpAny_If (wpAny_isTrue_Compare1 ?_)
  refine nameX_L (cl := [("row", L + 1)]) F hm ?_
  refine wpAny_Constant_int ?_
  refine eq_int ?_
  refine wpAny_truthy_bool ?_
  by_cases h : n = c
  · rw [beq_iff_eq.mpr h, if_pos rfl]; exact hy h _
  · have : (n == c) = false := by simpa using h
    rw [this, if_neg Bool.false_ne_true]; exact hn h _
theorem one_exec {M : Model} {A : Around} {env : Env} {E : Value → Shared → Prop} {Q : Flow → Shared → Prop} {s : Shared} {st : Stmt} (h : wpAny M A (exec st env) Q E s) : wpAny M A (execs [st] env) Q E s :=
  wpAny_execs_cons (wpAny_mono h (fun f _ hf => by cases f <;> first | exact wpAny_execs_nil hf | exact hf) fun _ _ e => e)
theorem pin_eq {m : Str → Option Value} {x : Str} {v : Value} (e : m x = some v) : (fun z => if z = x then some v else m z) = m := by
  funext z
  by_cases hz : z = x
  · subst hz; simp [e]
  · simp [hz]
theorem pin_on {m₀ m : Str → Option Value} {x : Str} {v : Value} (e : m = m₀) (h : m₀ x = some v) : (fun z => if z = x then some v else m z) = m₀ := by subst e; exact pin_eq h
theorem Fr.cast {h₀ h : Heap} {L : Addr} {m m' : Str → Option Value} (e : m' = m) (F : Fr h₀ L h m) : Fr h₀ L h m' := by rw [e]; exact F
theorem offC2 {aC aS aM : Addr} {i : Nat} {c : LSt} {T : List (Addr × Obj)} (hI : InvL aC aS aM i c T) (ho : OwnOff T (mutL aC aS aM c)) {o1 o2 o3 o4 o5 o6 o7 o8 o9 o10 : Obj} :
    ∀ p ∈ (aS, o1) :: (aM, o2) :: (c.x0, o3) :: (c.d0, o4) :: (c.E0, o5) :: (c.M0, o6) :: (c.x1, o7) :: (c.d1, o8) :: (c.E1, o9) :: (c.M1, o10) :: T, p.1 ≠ aC := by
  have hnd := hI.nd
  simp only [adrL, List.nodup_cons, List.mem_cons, List.not_mem_nil, or_false, not_or, not_false_eq_true, List.nodup_nil, and_true] at hnd
  obtain ⟨h1, _⟩ := hnd
  intro p hp
  simp only [List.mem_cons] at hp
  rcases hp with hp | hp | hp | hp | hp | hp | hp | hp | hp | hp | hp
  · subst hp; exact Ne.symm h1.1
  · subst hp; exact Ne.symm h1.2.1
  · subst hp; exact Ne.symm h1.2.2.1
  · subst hp; exact Ne.symm h1.2.2.2.1
  · subst hp; exact Ne.symm h1.2.2.2.2.1
  · subst hp; exact Ne.symm h1.2.2.2.2.2.1
  · subst hp; exact Ne.symm h1.2.2.2.2.2.2.1
  · subst hp; exact Ne.symm h1.2.2.2.2.2.2.2.1
  · subst hp; exact Ne.symm h1.2.2.2.2.2.2.2.2.1
  · subst hp; exact Ne.symm h1.2.2.2.2.2.2.2.2.2
  · exact ho p hp aC (.head _)
/-- the two halves, the chosen one first -/
def LSt.sel (k : Int) (c : LSt) : LSt := if k = 0 then c else c.flip
theorem LSt.sel0 (c : LSt) : c.sel 0 = c := rfl
theorem LSt.sel1 (c : LSt) : c.sel 1 = c.flip := rfl
theorem InvL.sel {aC aS aM : Addr} {i : Nat} {c : LSt} {T : List (Addr × Obj)} {k : Int} (x : InvL aC aS aM i c T) : InvL aC aS aM i (c.sel k) T := by
  unfold LSt.sel; split
  · exact x
  · exact x.flip
theorem mutL.sel {aC aS aM : Addr} {c : LSt} {T : List (Addr × Obj)} {k : Int} (x : OwnOff T (mutL aC aS aM c)) : OwnOff T (mutL aC aS aM (c.sel k)) := by
  unfold LSt.sel; split
  · exact x
  · exact mutL.flip x
theorem ledK.of {w : World} {aC aS aM : Addr} {c : LSt} {h₀ h : Heap} {L : Addr} {T : List (Addr × Obj)} {k : Int} (hk : k = 0 ∨ k = 1) (N : News h₀ L h (ledL w aC aS aM c ++ T)) : News h₀ L h (ledK w k aC aS aM (c.sel k) ++ T) := by
  rcases hk with rfl | rfl
  · exact N
  · exact ledK.of1 N
theorem ledK.to {w : World} {aC aS aM : Addr} {c : LSt} {h₀ h : Heap} {L : Addr} {T : List (Addr × Obj)} {k : Int} (hk : k = 0 ∨ k = 1) (N : News h₀ L h (ledK w k aC aS aM c ++ T)) : News h₀ L h (ledL w aC aS aM (c.sel k) ++ T) := by
  rcases hk with rfl | rfl
  · exact N
  · exact ledK.to1 N
theorem stored_ne {z x : Str} (h : storedL.contains z = false) (hx : storedL.contains x = true) : z ≠ x := fun e => by rw [e, hx] at h; cases h
end Mine
end
/-! part KEnd -/
section
open PySem PySem.W PyProof.Rows PySem.Spec PySem.Calls
set_option maxRecDepth 100000
set_option maxHeartbeats 8000000
set_option hygiene false
namespace Mine
local macro_rules | `(tactic| walk_at "eval ListComp") => `(tactic| ((with_reducible show wpAny _ _ (eval (Expr.ListComp _ _ _ _) _) _ _ _); refine Hold.keep ?_))
local macro_rules | `(tactic| walk_at "subscriptTail") => `(tactic| ((with_reducible show wpAny _ _ (subscriptTail _ _ (Value.ref _) (Value.int _ _)) _ _ _); refine Hold.keep ?_))
local macro_rules | `(tactic| walk_at "subscriptTail Name") => `(tactic| ((with_reducible show wpAny _ _ (subscriptTail _ _ (Value.ref _) (Value.int _ _)) _ _ _); refine Hold.keep ?_))
local macro_rules | `(tactic| walk_at "CompSrc") => `(tactic| (refine Hold.keep ?_))
local macro_rules | `(tactic| walk_at "setItem ref int") => `(tactic| (refine Hold.keep ?_))
local macro_rules | `(tactic| walk_at "setItem ref int ref") => `(tactic| (refine Hold.keep ?_))
local macro_rules | `(tactic| walk_at "call ref") => `(tactic| ((with_reducible show wpAny _ _ (call (Value.ref _) _) _ _ _); refine Hold.keep ?_))
local macro_rules | `(tactic| walk_at "call type:list") => `(tactic| ((with_reducible show wpAny _ _ (call (Value.type "list") [Value.ref _]) _ _ _); refine Hold.keep ?_))
local macro_rules | `(tactic| walk_at "binaryOp Add ref ref") => `(tactic| (refine Hold.keep ?_))
local macro_rules | `(tactic| walk_at "compareOp NotEq ref ref") => `(tactic| ((with_reducible show wpAny _ _ (compareOp CmpOp.NotEq (Value.ref _) (Value.ref _)) _ _ _); refine Hold.keep ?_))
local macro_rules | `(tactic| walk_at "compareOp Eq ref ref") => `(tactic| ((with_reducible show wpAny _ _ (compareOp CmpOp.Eq (Value.ref _) (Value.ref _)) _ _ _); refine Hold.keep ?_))
local macro_rules | `(tactic| walk_at "compareOp In") => `(tactic| ((with_reducible show wpAny _ _ (compareOp CmpOp.In (Value.ref _) (Value.ref _)) _ _ _); refine Hold.keep ?_))
theorem end_turn {w : World} {h₀ : Heap} {L fa : Addr} {cw : Value} {mean : ExcName → Option Value} {mg mb u : Str → Option Value} {s : Shared} {E : Value → Shared → Prop} {Q : Flow → Shared → Prop} {i : Nat} {aS aM : Addr} {c : LSt} {T : List (Addr × Obj)}
   (K0 : Below callerA h₀ [] h₀) (KX : (Mine.hd.heap_39 w.params).In h₀) (TB : Top Mine.hd.view_39 (looseW Mine.hd.view_39 []) mean mg mb h₀)
   (F : Fr h₀ L s.heap (fun z => if z = Str.ofString "models" then some (.ref aM) else if z = Str.ofString "sets" then some (.ref aS) else u z)) (N : News h₀ L s.heap (ledL w (L + 1) aS aM c ++ T)) (hi : i ≤ 20) (hI : InvL (L + 1) aS aM i c T)
   (hret : ∀ h' tk, Fr h₀ L h' (fun z => if z = Str.ofString "models" then some (.ref aM) else if z = Str.ofString "sets" then some (.ref aS) else u z) → News h₀ L h' (ledL w (L + 1) aS aM c ++ T) → Q .next { s with heap := h', gens := (s.gens.push .finished).push .finished, toks := tk }) :
   wpAny (model PySem.Challenge.rw_ad6014_01.row.prog w) (callerA.deeper (lawEnv L fa cw)) (execs endS (lawEnv L fa cw)) Q E s := by
  revert KX; k_fill; intro KX
  obtain ⟨sc, hsc⟩ : ∃ sc, lawSc = sc := ⟨_, rfl⟩
  have hsc2 := hsc
  conv at hsc2 => lhs; whnf
  unfold lawEnv
  rw [hsc]
  clear hsc
  subst hsc2
  conv in (endS) => whnf
  obtain ⟨oc, cS, cM, x0, d0, E0, M0, t0, n0, cu0, c0, us0, ms0, R0, x1, d1, E1, M1, t1, n1, cu1, c1, us1, ms1, R1⟩ := c
  simp only [ledL, List.cons_append, List.nil_append] at N F
  have hu0 : F2 (RowIn T) us0 R0 := hI.us0
  have hm0 : F2 (RowIn T) ms0 R0 := hI.ms0
  have hu1 : F2 (RowIn T) us1 R1 := hI.us1
  have hm1 : F2 (RowIn T) ms1 R1 := hI.ms1
  have hl0 : R0.length < 60 := by have := hI.le0; dsimp only at this; omega
  have hl1 : R1.length < 60 := by have := hI.le1; dsimp only at this; omega
  k_steps
  refine Hold.out ?_
  refine kim_list N (.tail _ (.head _)) rfl rfl (by decide) (by decide) (x := .ref x0) rfl ?_
  k_steps
  refine Hold.out ?_
  refine kim_list N (.tail _ (.tail _ (.head _))) rfl rfl (by decide) (by decide) (x := .ref M0) rfl ?_
  k_steps
  refine Hold.out ?_
  have N1 : News _ _ _ ((x0, instObj 92 d0) :: (d0, itemsD w E0 t0 n0) :: (E0, listOf (List.toArray us0) cu0) :: (M0, listOf (List.toArray ms0) c0) :: (L + 1, oc) :: (aS, listOf (List.toArray [.ref x0, .ref x1]) cS) :: (aM, listOf (List.toArray [.ref M0, .ref M1]) cM) :: (x1, instObj 92 d1) :: (d1, itemsD w E1 t1 n1) :: (E1, listOf (List.toArray us1) cu1) :: (M1, listOf (List.toArray ms1) c1) :: T) := pick [3, 4, 5, 6, 0, 1, 2, 7, 8, 9, 10] 11 N
  refine agr_call K0 KX TB F KX N1 TB rfl (by show callerA.depth + 1 + 40 < recursionLimit; simp only [depth_caller]; decide +kernel) (by decide +kernel) hl0 (F2.rows sub7 hu0) (F2.rows sub7 hm0) fun h1 tk1 Fa Na => ?_
  clear F N N1
  have N2 : News _ _ _ ((L + 1, oc) :: (aS, listOf (List.toArray [.ref x0, .ref x1]) cS) :: (aM, listOf (List.toArray [.ref M0, .ref M1]) cM) :: (x0, instObj 92 d0) :: (d0, itemsD w E0 t0 n0) :: (E0, listOf (List.toArray us0) cu0) :: (M0, listOf (List.toArray ms0) c0) :: (x1, instObj 92 d1) :: (d1, itemsD w E1 t1 n1) :: (E1, listOf (List.toArray us1) cu1) :: (M1, listOf (List.toArray ms1) c1) :: T) := pick [4, 5, 6, 0, 1, 2, 3, 7, 8, 9, 10] 11 Na
  clear Na
  k_steps
  refine Hold.out ?_
  refine kim_list N2 (.tail _ (.head _)) rfl rfl (by decide) (by decide) (x := .ref x1) rfl ?_
  k_steps
  refine Hold.out ?_
  refine kim_list N2 (.tail _ (.tail _ (.head _))) rfl rfl (by decide) (by decide) (x := .ref M1) rfl ?_
  k_steps
  refine Hold.out ?_
  have N3 : News _ _ _ ((x1, instObj 92 d1) :: (d1, itemsD w E1 t1 n1) :: (E1, listOf (List.toArray us1) cu1) :: (M1, listOf (List.toArray ms1) c1) :: (L + 1, oc) :: (aS, listOf (List.toArray [.ref x0, .ref x1]) cS) :: (aM, listOf (List.toArray [.ref M0, .ref M1]) cM) :: (x0, instObj 92 d0) :: (d0, itemsD w E0 t0 n0) :: (E0, listOf (List.toArray us0) cu0) :: (M0, listOf (List.toArray ms0) c0) :: T) := pick [7, 8, 9, 10, 0, 1, 2, 3, 4, 5, 6] 11 N2
  refine agr_call K0 KX TB Fa KX N3 TB rfl (by show callerA.depth + 1 + 40 < recursionLimit; simp only [depth_caller]; decide +kernel) (by decide +kernel) hl1 (F2.rows sub7 hu1) (F2.rows sub7 hm1) fun h2 tk2 Fb Nb => ?_
  clear Fa N2 N3
  have N4 : News _ _ _ ((L + 1, oc) :: (aS, listOf (List.toArray [.ref x0, .ref x1]) cS) :: (aM, listOf (List.toArray [.ref M0, .ref M1]) cM) :: (x0, instObj 92 d0) :: (d0, itemsD w E0 t0 n0) :: (E0, listOf (List.toArray us0) cu0) :: (M0, listOf (List.toArray ms0) c0) :: (x1, instObj 92 d1) :: (d1, itemsD w E1 t1 n1) :: (E1, listOf (List.toArray us1) cu1) :: (M1, listOf (List.toArray ms1) c1) :: T) := pick [4, 5, 6, 7, 8, 9, 10, 0, 1, 2, 3] 11 Nb
  clear Nb
  k_steps
  exact hret _ _ Fb N4
end Mine
end
/-! part K0 -/
section
open PySem PySem.W PyProof.Rows PySem.Spec PySem.Calls
set_option maxRecDepth 100000
set_option maxHeartbeats 8000000
set_option hygiene false
namespace Mine
local macro_rules | `(tactic| walk_at "eval ListComp") => `(tactic| ((with_reducible show wpAny _ _ (eval (Expr.ListComp _ _ _ _) _) _ _ _); refine Hold.keep ?_))
local macro_rules | `(tactic| walk_at "subscriptTail") => `(tactic| ((with_reducible show wpAny _ _ (subscriptTail _ _ (Value.ref _) (Value.int _ _)) _ _ _); refine Hold.keep ?_))
local macro_rules | `(tactic| walk_at "subscriptTail Name") => `(tactic| ((with_reducible show wpAny _ _ (subscriptTail _ _ (Value.ref _) (Value.int _ _)) _ _ _); refine Hold.keep ?_))
local macro_rules | `(tactic| walk_at "CompSrc") => `(tactic| (refine Hold.keep ?_))
local macro_rules | `(tactic| walk_at "setItem ref int") => `(tactic| (refine Hold.keep ?_))
local macro_rules | `(tactic| walk_at "setItem ref int ref") => `(tactic| (refine Hold.keep ?_))
local macro_rules | `(tactic| walk_at "call ref") => `(tactic| ((with_reducible show wpAny _ _ (call (Value.ref _) _) _ _ _); refine Hold.keep ?_))
local macro_rules | `(tactic| walk_at "call type:list") => `(tactic| ((with_reducible show wpAny _ _ (call (Value.type "list") [Value.ref _]) _ _ _); refine Hold.keep ?_))
local macro_rules | `(tactic| walk_at "binaryOp Add ref ref") => `(tactic| (refine Hold.keep ?_))
local macro_rules | `(tactic| walk_at "compareOp NotEq ref ref") => `(tactic| ((with_reducible show wpAny _ _ (compareOp CmpOp.NotEq (Value.ref _) (Value.ref _)) _ _ _); refine Hold.keep ?_))
local macro_rules | `(tactic| walk_at "compareOp Eq ref ref") => `(tactic| ((with_reducible show wpAny _ _ (compareOp CmpOp.Eq (Value.ref _) (Value.ref _)) _ _ _); refine Hold.keep ?_))
local macro_rules | `(tactic| walk_at "compareOp In") => `(tactic| ((with_reducible show wpAny _ _ (compareOp CmpOp.In (Value.ref _) (Value.ref _)) _ _ _); refine Hold.keep ?_))
theorem kind0 {w : World} {h₀ : Heap} {L fa : Addr} {cw : Value} {mean : ExcName → Option Value} {mg mb u : Str → Option Value} {s : Shared} {E : Value → Shared → Prop} {Q : Flow → Shared → Prop} {i : Nat} {k : Int} {tw : Tok} {aS aM aR aO : Addr} {c : LSt} {T : List (Addr × Obj)} {r q : List Int}
   (K0 : Below callerA h₀ [] h₀) (KX : (Mine.hd.heap_39 w.params).In h₀) (TB : Top Mine.hd.view_39 (looseW Mine.hd.view_39 []) mean mg mb h₀)
   (F : Fr h₀ L s.heap (fun z => if z = Str.ofString "other" then some (.ref aO) else if z = Str.ofString "one" then some (.ref c.x0) else if z = Str.ofString "which" then some (.int k tw) else if z = Str.ofString "models" then some (.ref aM) else if z = Str.ofString "sets" then some (.ref aS) else u z)) (N : News h₀ L s.heap (ledK w k (L + 1) aS aM c ++ T)) (hk : k = 0 ∨ k = 1) (hi : i < 20) (hoff : OwnOff T (mutL (L + 1) aS aM c)) (hI : InvL (L + 1) aS aM i c T) (hcell : c.oc.data = .cell (some (.ref aR))) (hR : RowIn T (.ref aR) r) (hO : RowIn T (.ref aO) q) 
   (hret : ∀ h' tk m' c' T', Fr h₀ L h' m' → News h₀ L h' (ledK w k (L + 1) aS aM c' ++ T') → (∀ p ∈ T, p ∈ T') → OwnOff T' (mutL (L + 1) aS aM c') → InvL (L + 1) aS aM (i + 1) c' T' → (∀ z, z ≠ Str.ofString "number" → storedL.contains z = false → m' z = (fun z => if z = Str.ofString "other" then some (.ref aO) else if z = Str.ofString "one" then some (.ref c.x0) else if z = Str.ofString "which" then some (.int k tw) else if z = Str.ofString "models" then some (.ref aM) else if z = Str.ofString "sets" then some (.ref aS) else u z) z) → Q .next { s with heap := h', toks := tk }) :
   wpAny (model PySem.Challenge.rw_ad6014_01.row.prog w) (callerA.deeper (lawEnv L fa cw)) (execs kS0 (lawEnv L fa cw)) Q E s := by
  revert KX; k_fill; intro KX
  obtain ⟨sc, hsc⟩ : ∃ sc, lawSc = sc := ⟨_, rfl⟩
  have hsc2 := hsc
  conv at hsc2 => lhs; whnf
  unfold lawEnv
  rw [hsc]
  clear hsc
  subst hsc2
  conv in (kS0) => whnf
  obtain ⟨oc, cS, cM, x0, d0, E0, M0, t0, n0, cu0, c0, us0, ms0, R0, x1, d1, E1, M1, t1, n1, cu1, c1, us1, ms1, R1⟩ := c
  simp only [ledK, List.cons_append, List.nil_append] at N F hcell hret
  have hu0 : F2 (RowIn T) us0 R0 := hI.us0
  have hm0 : F2 (RowIn T) ms0 R0 := hI.ms0
  have hu1 : F2 (RowIn T) us1 R1 := hI.us1
  have hm1 : F2 (RowIn T) ms1 R1 := hI.ms1
  have hl0 : R0.length < 60 := by have := hI.le0; dsimp only at this; omega
  have hl1 : R1.length < 60 := by have := hI.le1; dsimp only at this; omega
  have hdx : @LT.lt Nat instLTNat d0 x0 := hI.dx0
  have hdE : @LT.lt Nat instLTNat d0 E0 := Nat.lt_trans hI.dx0 hI.xE0
  have hofD : OwnOff ((L + 1, oc) :: (aS, listOf (List.toArray (pr2 k (.ref x0) (.ref x1))) cS) :: (aM, listOf (List.toArray (pr2 k (.ref M0) (.ref M1))) cM) :: (M0, listOf (List.toArray ms0) c0) :: (x1, instObj 92 d1) :: (d1, itemsD w E1 t1 n1) :: (E1, listOf (List.toArray us1) cu1) :: (M1, listOf (List.toArray ms1) c1) :: T) [d0] := offD hI hoff
  k_steps
  refine Hold.out ?_
  rename Fr _ _ _ _ => Fa
  rename News _ _ _ _ => Na
  rename _ ∧ _ => lH
  rename_i H hz1 hz2
  have N1 : News _ _ _ ((x0, instObj 92 d0) :: (d0, itemsD w E0 t0 n0) :: (E0, listOf (List.toArray us0) cu0) :: (H, listOf #[.ref aR, .ref aO, .ref aR] 0) :: (L + 1, oc) :: (aS, listOf (List.toArray (pr2 k (.ref x0) (.ref x1))) cS) :: (aM, listOf (List.toArray (pr2 k (.ref M0) (.ref M1))) cM) :: (M0, listOf (List.toArray ms0) c0) :: (x1, instObj 92 d1) :: (d1, itemsD w E1 t1 n1) :: (E1, listOf (List.toArray us1) cu1) :: (M1, listOf (List.toArray ms1) c1) :: T) := pick [4, 5, 6, 0, 1, 2, 3, 7, 8, 9, 10, 11] 12 Na
  have hofD2 : OwnOff ((H, listOf #[.ref aR, .ref aO, .ref aR] 0) :: (L + 1, oc) :: (aS, listOf (List.toArray (pr2 k (.ref x0) (.ref x1))) cS) :: (aM, listOf (List.toArray (pr2 k (.ref M0) (.ref M1))) cM) :: (M0, listOf (List.toArray ms0) c0) :: (x1, instObj 92 d1) :: (d1, itemsD w E1 t1 n1) :: (E1, listOf (List.toArray us1) cu1) :: (M1, listOf (List.toArray ms1) c1) :: T) [d0] := fun p hp b hb => by
    rcases List.mem_cons.mp hp with rfl | hp
    · rw [List.mem_singleton.mp hb]; exact Nat.ne_of_gt lH.2.2.2.2.1
    · exact hofD p hp b hb
  have hrows : F2 (RowIn T) [.ref aR, .ref aO, .ref aR] [r, q, r] := .cons hR (.cons hO (.cons hR .nil))
  refine upd_call (x := x0) (d := d0) (D := E0) K0 Fa KX N1 TB rfl (by show callerA.depth + 1 + 10 < recursionLimit; simp only [depth_caller]; decide +kernel) (by decide +kernel) hdx hdE hofD2 (R := T) sub9 hu0 (l := H) (vs := [.ref aR, .ref aO, .ref aR]) (c1 := 0) (.head _) hrows (by have := hI.le0; dsimp only at this; show R0.length + 3 < 60; omega) fun E' us' ts' cu' n' t' h1 tk1 Fb Nb hxE' hdE' hfr hus' hcan hlen => ?_
  clear Na N1
  k_steps
  refine Hold.out ?_
  rename Fr _ _ _ _ => Fc
  rename News _ _ _ _ => Nc
  refine ne_listsN Nc (xs := [.ref aR, .ref aO, .ref aR]) (ka := 0) (by k_mem) (.head _) (F2.rows sub14 hrows) (F2.rows sub14 hrows) (by show (Around.deeper _ _).units + 64 < cLine; simp only [Around.deeper_units]; decide +kernel) ?_
  have hnn : (!decide ([r, q, r] = [r, q, r])) = false := by simp
  rw [hnn]
  have N2 : News _ _ _ ((E', listOf (List.toArray us') cu') :: (L + 1, oc) :: (aS, listOf (List.toArray (pr2 k (.ref x0) (.ref x1))) cS) :: (aM, listOf (List.toArray (pr2 k (.ref M0) (.ref M1))) cM) :: (x0, instObj 92 d0) :: (d0, itemsD w E' t' n') :: (E0, listOf (List.toArray us0) cu0) :: (M0, listOf (List.toArray ms0) c0) :: (x1, instObj 92 d1) :: (d1, itemsD w E1 t1 n1) :: (E1, listOf (List.toArray us1) cu1) :: (M1, listOf (List.toArray ms1) c1) :: T) := pick [1, 6, 7, 8, 2, 3, 4, 9, 10, 11, 12, 13] 14 Nc
  clear Nc
  k_steps
  refine Hold.out ?_
  refine item2 N2 (by k_mem) (by omega) (by omega) (pr2_at hk _ _) ?_
  k_steps
  refine Hold.out ?_
  rename Fr _ _ _ _ => Fd
  rename News _ _ _ _ => Nd
  refine add_rowsN Fd Nd (xs := ms0) (ka := c0) (by k_mem) (.head _) (by have := hm0.length; show ms0.length + 2 < 1000; omega) fun D3 h3 Fe Ne hf3 => ?_
  have N3 : News _ _ _ ((D3, listOf (List.toArray (ms0 ++ [.ref aR, .ref aO])) 0) :: (E', listOf (List.toArray us') cu') :: (L + 1, oc) :: (aS, listOf (List.toArray (pr2 k (.ref x0) (.ref x1))) cS) :: (aM, listOf (List.toArray (pr2 k (.ref M0) (.ref M1))) cM) :: (x0, instObj 92 d0) :: (d0, itemsD w E' t' n') :: (E0, listOf (List.toArray us0) cu0) :: (M0, listOf (List.toArray ms0) c0) :: (x1, instObj 92 d1) :: (d1, itemsD w E1 t1 n1) :: (E1, listOf (List.toArray us1) cu1) :: (M1, listOf (List.toArray ms1) c1) :: T) := pick [0, 2, 3, 4, 5, 6, 7, 8, 9, 10, 11, 12, 13] 14 Ne
  clear Fd Nd Ne
  try clear N2
  k_steps
  refine Hold.out ?_
  rename Fr _ _ _ _ => Fg
  rename News _ _ _ _ => Ng
  refine tidy_call K0 Fg KX Ng TB rfl (by show callerA.depth + 1 + 10 < recursionLimit; simp only [depth_caller]; decide +kernel) (by decide +kernel) (R := T) sub13 (l := D3) (items := List.toArray (ms0 ++ [.ref aR, .ref aO])) (.head _) (hm0.append (.cons hR (.cons hO .nil))) (by rw [List.length_append]; have := hI.le0; dsimp only at this; show R0.length + 2 < 60; omega) fun M' ms' cm' R' h4 tk4 Fh Nh hf4 hms' hcan' hlen' => ?_
  have hRR : ts' = R' := (hcan.same fun z => mem_twice).uniq hcan'
  subst hRR
  clear Fg Ng
  try clear N3
  k_steps
  refine Hold.out ?_
  have N4 : News _ _ _ ((aM, listOf (List.toArray (pr2 k (.ref M0) (.ref M1))) cM) :: (M', listOf (List.toArray ms') cm') :: (E', listOf (List.toArray us') cu') :: (L + 1, oc) :: (aS, listOf (List.toArray (pr2 k (.ref x0) (.ref x1))) cS) :: (x0, instObj 92 d0) :: (d0, itemsD w E' t' n') :: (E0, listOf (List.toArray us0) cu0) :: (M0, listOf (List.toArray ms0) c0) :: (x1, instObj 92 d1) :: (d1, itemsD w E1 t1 n1) :: (E1, listOf (List.toArray us1) cu1) :: (M1, listOf (List.toArray ms1) c1) :: T) := pick [5, 0, 2, 3, 4, 6, 7, 8, 9, 10, 11, 12, 13] 14 Nh
  have hMM : aM < M' := hf4 _ (by k_mem : (aM, listOf (List.toArray (pr2 k (.ref M0) (.ref M1))) cM) ∈ _)
  have hEM : E' < M' := hf4 _ (by k_mem : (E', listOf (List.toArray us') cu') ∈ _)
  have hME : aM < E' := hfr _ (by k_mem : (aM, listOf (List.toArray (pr2 k (.ref M0) (.ref M1))) cM) ∈ _)
  refine store2 Fh N4 (List.forall_mem_cons.mpr ⟨Nat.ne_of_gt hMM, List.forall_mem_cons.mpr ⟨Nat.ne_of_gt hME, offM hI hoff⟩⟩) hk fun h5 Fi Ni => ?_
  clear Fh Nh N4
  k_steps
  have N5 : News _ _ _ ((L + 1, oc) :: (aS, listOf (List.toArray (pr2 k (.ref x0) (.ref x1))) cS) :: (aM, listOf (List.toArray (pr2 k (.ref M') (.ref M1))) cM) :: (x0, instObj 92 d0) :: (d0, itemsD w E' t' n') :: (E', listOf (List.toArray us') cu') :: (M', listOf (List.toArray ms') cm') :: (x1, instObj 92 d1) :: (d1, itemsD w E1 t1 n1) :: (E1, listOf (List.toArray us1) cu1) :: (M1, listOf (List.toArray ms1) c1) :: T) := pick [3, 4, 0, 5, 6, 2, 1, 9, 10, 11, 12] 13 Ni
  have hlt := lt_map hfr
  simp only [List.map_cons, List.mem_cons, forall_eq_or_imp] at hlt
  obtain ⟨q0, q1, q2, q3, q7, q8, q9, q10, q11, qT⟩ := hlt
  refine hret _ _ _ ⟨oc, cS, cM, x0, d0, E', M', t', n', cu', cm', us', ms', ts', x1, d1, E1, M1, t1, n1, cu1, c1, us1, ms1, R1⟩ T Fi N5 (fun _ h => h) ?_ ?_ (fun z hz1 hz2 => if_neg fun e => by subst e; exact absurd hz2 (by decide))
  · intro p hp b hb
    have hpT := hfr p (sub9 p hp)
    simp only [mutL, List.mem_cons, List.not_mem_nil, or_false] at hb
    rcases hb with hb | hb | hb | hb | hb | hb | hb
    · exact hoff p hp b (by simp [mutL, hb])
    · exact hoff p hp b (by simp [mutL, hb])
    · exact hoff p hp b (by simp [mutL, hb])
    · exact hoff p hp b (by simp [mutL, hb])
    · subst hb; exact Nat.ne_of_lt hpT
    · exact hoff p hp b (by simp [mutL, hb])
    · exact hoff p hp b (by simp [mutL, hb])
  · refine { cell := hI.cell, nd := ?_, us0 := hus', ms0 := hms', us1 := hu1, ms1 := hm1, st0 := hcan'.1, st1 := hI.st1, le0 := ?_, le1 := by have := hI.le1; dsimp only at this ⊢; omega, dx0 := hdx, xE0 := hxE', dx1 := hI.dx1, xE1 := hI.xE1 }
    · refine nd_mid (pre := [L + 1, aS, aM, x0, d0]) (mid := [E0, M0]) (fs := [E', M']) (post := [x1, d1, E1, M1]) hI.nd ?_ ?_
      · simp only [List.nodup_cons, List.mem_cons, List.not_mem_nil, or_false, not_or, not_false_eq_true, List.nodup_nil, and_true]
        exact Nat.ne_of_lt hEM
      · intro a ha b hb
        have hb' : b < E' := by
          simp only [List.cons_append, List.nil_append, List.mem_cons, List.not_mem_nil, or_false] at hb
          rcases hb with h | h | h | h | h | h | h | h | h <;> (subst h; assumption)
        have hda : E' ≤ a := by
          simp only [List.mem_cons, List.not_mem_nil, or_false] at ha
          rcases ha with h | h
          · subst h; exact Nat.le_refl _
          · subst h; exact Nat.le_of_lt hEM
        exact Nat.lt_of_lt_of_le hb' hda
    · have q12 := hI.le0
      rw [List.length_append] at hlen'
      dsimp only at q12 ⊢
      simp only [List.length_cons, List.length_nil] at hlen'
      omega
end Mine
end
/-! part K1 -/
section
open PySem PySem.W PyProof.Rows PySem.Spec PySem.Calls
set_option maxRecDepth 100000
set_option maxHeartbeats 8000000
set_option hygiene false
namespace Mine
local macro_rules | `(tactic| walk_at "eval ListComp") => `(tactic| ((with_reducible show wpAny _ _ (eval (Expr.ListComp _ _ _ _) _) _ _ _); refine Hold.keep ?_))
local macro_rules | `(tactic| walk_at "subscriptTail") => `(tactic| ((with_reducible show wpAny _ _ (subscriptTail _ _ (Value.ref _) (Value.int _ _)) _ _ _); refine Hold.keep ?_))
local macro_rules | `(tactic| walk_at "subscriptTail Name") => `(tactic| ((with_reducible show wpAny _ _ (subscriptTail _ _ (Value.ref _) (Value.int _ _)) _ _ _); refine Hold.keep ?_))
local macro_rules | `(tactic| walk_at "CompSrc") => `(tactic| (refine Hold.keep ?_))
local macro_rules | `(tactic| walk_at "setItem ref int") => `(tactic| (refine Hold.keep ?_))
local macro_rules | `(tactic| walk_at "setItem ref int ref") => `(tactic| (refine Hold.keep ?_))
local macro_rules | `(tactic| walk_at "call ref") => `(tactic| ((with_reducible show wpAny _ _ (call (Value.ref _) _) _ _ _); refine Hold.keep ?_))
local macro_rules | `(tactic| walk_at "call type:list") => `(tactic| ((with_reducible show wpAny _ _ (call (Value.type "list") [Value.ref _]) _ _ _); refine Hold.keep ?_))
local macro_rules | `(tactic| walk_at "binaryOp Add ref ref") => `(tactic| (refine Hold.keep ?_))
local macro_rules | `(tactic| walk_at "compareOp NotEq ref ref") => `(tactic| ((with_reducible show wpAny _ _ (compareOp CmpOp.NotEq (Value.ref _) (Value.ref _)) _ _ _); refine Hold.keep ?_))
local macro_rules | `(tactic| walk_at "compareOp Eq ref ref") => `(tactic| ((with_reducible show wpAny _ _ (compareOp CmpOp.Eq (Value.ref _) (Value.ref _)) _ _ _); refine Hold.keep ?_))
local macro_rules | `(tactic| walk_at "compareOp In") => `(tactic| ((with_reducible show wpAny _ _ (compareOp CmpOp.In (Value.ref _) (Value.ref _)) _ _ _); refine Hold.keep ?_))
theorem kind1 {w : World} {h₀ : Heap} {L fa : Addr} {cw : Value} {mean : ExcName → Option Value} {mg mb u : Str → Option Value} {s : Shared} {E : Value → Shared → Prop} {Q : Flow → Shared → Prop} {i : Nat} {k : Int} {tw : Tok} {aS aM aR aO : Addr} {c : LSt} {T : List (Addr × Obj)} {r q : List Int}
   (K0 : Below callerA h₀ [] h₀) (KX : (Mine.hd.heap_39 w.params).In h₀) (TB : Top Mine.hd.view_39 (looseW Mine.hd.view_39 []) mean mg mb h₀)
   (F : Fr h₀ L s.heap (fun z => if z = Str.ofString "other" then some (.ref aO) else if z = Str.ofString "one" then some (.ref c.x0) else if z = Str.ofString "which" then some (.int k tw) else if z = Str.ofString "models" then some (.ref aM) else if z = Str.ofString "sets" then some (.ref aS) else u z)) (N : News h₀ L s.heap (ledK w k (L + 1) aS aM c ++ T)) (hk : k = 0 ∨ k = 1) (hi : i < 20) (hoff : OwnOff T (mutL (L + 1) aS aM c)) (hI : InvL (L + 1) aS aM i c T) (hcell : c.oc.data = .cell (some (.ref aR))) (hR : RowIn T (.ref aR) r) (hO : RowIn T (.ref aO) q) (hE : ∀ e, PassesOwnAt (model PySem.Challenge.rw_ad6014_01.row.prog w) ((callerA.deeper (lawEnv L fa cw)).mark (some (.ref e))) (callerA.deeper (lawEnv L fa cw)) (lawEnv L fa cw) E)
   (hret : ∀ h' tk m' c' T', Fr h₀ L h' m' → News h₀ L h' (ledK w k (L + 1) aS aM c' ++ T') → (∀ p ∈ T, p ∈ T') → OwnOff T' (mutL (L + 1) aS aM c') → InvL (L + 1) aS aM (i + 1) c' T' → (∀ z, z ≠ Str.ofString "number" → storedL.contains z = false → m' z = (fun z => if z = Str.ofString "other" then some (.ref aO) else if z = Str.ofString "one" then some (.ref c.x0) else if z = Str.ofString "which" then some (.int k tw) else if z = Str.ofString "models" then some (.ref aM) else if z = Str.ofString "sets" then some (.ref aS) else u z) z) → Q .next { s with heap := h', toks := tk }) :
   wpAny (model PySem.Challenge.rw_ad6014_01.row.prog w) (callerA.deeper (lawEnv L fa cw)) (execs kS1 (lawEnv L fa cw)) Q E s := by
  revert KX; k_fill; intro KX
  obtain ⟨sc, hsc⟩ : ∃ sc, lawSc = sc := ⟨_, rfl⟩
  have hsc2 := hsc
  conv at hsc2 => lhs; whnf
  unfold lawEnv at hE ⊢
  rw [hsc] at hE ⊢
  clear hsc
  subst hsc2
  conv in (kS1) => whnf
  obtain ⟨oc, cS, cM, x0, d0, E0, M0, t0, n0, cu0, c0, us0, ms0, R0, x1, d1, E1, M1, t1, n1, cu1, c1, us1, ms1, R1⟩ := c
  simp only [ledK, List.cons_append, List.nil_append] at N F hcell hret
  have hu0 : F2 (RowIn T) us0 R0 := hI.us0
  have hm0 : F2 (RowIn T) ms0 R0 := hI.ms0
  have hu1 : F2 (RowIn T) us1 R1 := hI.us1
  have hm1 : F2 (RowIn T) ms1 R1 := hI.ms1
  have hl0 : R0.length < 60 := by have := hI.le0; dsimp only at this; omega
  have hl1 : R1.length < 60 := by have := hI.le1; dsimp only at this; omega
  have hxE : @LT.lt Nat instLTNat x0 E0 := hI.xE0
  have hdE : @LT.lt Nat instLTNat d0 E0 := Nat.lt_trans hI.dx0 hI.xE0
  have hofE : OwnOff ((L + 1, oc) :: (aS, listOf (List.toArray (pr2 k (.ref x0) (.ref x1))) cS) :: (aM, listOf (List.toArray (pr2 k (.ref M0) (.ref M1))) cM) :: (M0, listOf (List.toArray ms0) c0) :: (x1, instObj 92 d1) :: (d1, itemsD w E1 t1 n1) :: (E1, listOf (List.toArray us1) cu1) :: (M1, listOf (List.toArray ms1) c1) :: T) [E0] := offE hI hoff
  k_steps
  refine Hold.out ?_
  refine item2 N (.tail _ (.tail _ (.head _))) (by omega) (by omega) (pr2_at hk _ _) ?_
  k_steps
  refine Hold.out ?_
  refine in_rowsN N (by k_mem) (F2.rows sub11 hm0) (hR.mono sub11) (by show (Around.deeper _ _).units + 64 < cLine; simp only [Around.deeper_units]; decide +kernel) ?_
  k_steps
  rename Fr _ _ _ _ => Fa
  rename News _ _ _ _ => Na
  refine wpAny_Try_except ?_
  k_steps
  refine Hold.out ?_
  have N1 : News _ _ _ ((x0, instObj 92 d0) :: (d0, itemsD w E0 t0 n0) :: (E0, listOf (List.toArray us0) cu0) :: (L + 1, oc) :: (aS, listOf (List.toArray (pr2 k (.ref x0) (.ref x1))) cS) :: (aM, listOf (List.toArray (pr2 k (.ref M0) (.ref M1))) cM) :: (M0, listOf (List.toArray ms0) c0) :: (x1, instObj 92 d1) :: (d1, itemsD w E1 t1 n1) :: (E1, listOf (List.toArray us1) cu1) :: (M1, listOf (List.toArray ms1) c1) :: T) := pick [3, 4, 5, 0, 1, 2, 6, 7, 8, 9, 10] 11 Na
  refine rem_call (x := x0) (d := d0) (D := E0) K0 Fa KX N1 TB rfl (by show callerA.depth + 1 + 20 < recursionLimit; simp only [depth_caller]; decide +kernel) (by decide +kernel) hxE hdE hofE (R := T) sub8 hu0 hl0 hR (fun hr us' cu' h1 tk1 Fb Nb hus' => ?_) (fun hr g' e h1 tk1 Fb hup hRz => ?_)
  · rw [decide_eq_true hr] at Fb
    clear Fa Na N1
    k_steps
    refine Hold.out ?_
    refine LCt.ListComp_T (F₀ := by k_asm) (by with_unfolding_all rfl) (by decide) (by rfl) (by decide) (by rfl) ?_
    k_steps
    refine Hold.out ?_
    refine item2 Nb (by k_mem) (by omega) (by omega) (pr2_at hk _ _) ?_
    k_steps
    refine LCt.CompSrcT.ledger rfl Fb Nb (by k_mem : (M0, listOf (List.toArray ms0) c0) ∈ _) (by rw [List.size_toArray, sizeLine_eq]; have := hm0.length; omega) fun g => ?_
    refine compT_rows (fun y => decide (y ≠ r)) hm0 ?_ ?_ ?_ ?_
    · exact .inr ⟨_, (by k_mem : (M0, listOf (List.toArray ms0) c0) ∈ _), rfl, _, rfl⟩
    · intro v z I oI C oC D' m₂ h tk E' ys hv hC hx Fc Nc off ne
      k_steps
      rename Fr _ _ _ _ => Fd
      rename News _ _ _ _ => Nd
      refine ne_rowsN Nd (hv.mono sub14) (hR.mono sub14) (by show (Around.deeper _ _).units < cLine; simp only [Around.deeper_units]; decide +kernel) ?_
      cases hzr : decide (z ≠ r)
      · k_steps
        all_goals first | rfl | exact ⟨_, _, rfl, Fd, Nd⟩
      · k_steps
        all_goals first | rfl | exact ⟨_, _, rfl, Fd, Nd⟩
    · intro v I oI C oC D' m₂ h tk E' ys hC hx Fc Nc off ne
      k_steps
      all_goals first | rfl | exact ⟨_, _, rfl, Fc, Nc⟩
    · intro ys hy D' h tk Fc Nc off
      k_steps
      refine Hold.out ?_
      simp only [LCg.Off1] at off
      obtain ⟨q1, q2, q3, q4, q5, q6, q7, q8, q9, q10, q11, qT⟩ := off
      have N2 : News _ _ _ ((aM, listOf (List.toArray (pr2 k (.ref M0) (.ref M1))) cM) :: (D', LCg.lst ys) :: (L + 1, oc) :: (aS, listOf (List.toArray (pr2 k (.ref x0) (.ref x1))) cS) :: (x0, instObj 92 d0) :: (d0, itemsD w E0 t0 n0) :: (E0, listOf (List.toArray us') cu') :: (M0, listOf (List.toArray ms0) c0) :: (x1, instObj 92 d1) :: (d1, itemsD w E1 t1 n1) :: (E1, listOf (List.toArray us1) cu1) :: (M1, listOf (List.toArray ms1) c1) :: T) := pick [6, 0, 4, 5, 1, 2, 3, 7, 8, 9, 10, 11] 12 Nc
      refine store2 Fc N2 (List.forall_mem_cons.mpr ⟨Ne.symm q6, offM hI hoff⟩) hk fun h4 Fd Nd => ?_
      clear Fc Nc N2
      k_steps
      have N3 : News _ _ _ ((L + 1, oc) :: (aS, listOf (List.toArray (pr2 k (.ref x0) (.ref x1))) cS) :: (aM, listOf (List.toArray (pr2 k (.ref D') (.ref M1))) cM) :: (x0, instObj 92 d0) :: (d0, itemsD w E0 t0 n0) :: (E0, listOf (List.toArray us') cu') :: (D', LCg.lst ys) :: (x1, instObj 92 d1) :: (d1, itemsD w E1 t1 n1) :: (E1, listOf (List.toArray us1) cu1) :: (M1, listOf (List.toArray ms1) c1) :: T) := pick [2, 3, 0, 4, 5, 6, 1, 8, 9, 10, 11] 12 Nd
      rw [filter_erase hI.st0] at hy
      refine hret _ _ _ ⟨oc, cS, cM, x0, d0, E0, D', t0, n0, cu', ys.length, us', ys, R0.erase r, x1, d1, E1, M1, t1, n1, cu1, c1, us1, ms1, R1⟩ T Fd N3 (fun _ h => h) hoff ?_ (fun z hz1 hz2 => if_neg fun e => by subst e; exact absurd hz2 (by decide))
      refine { cell := hI.cell, nd := ?_, us0 := hus', ms0 := hy, us1 := hu1, ms1 := hm1, st0 := List.Pairwise.sublist List.erase_sublist hI.st0, st1 := hI.st1, le0 := ?_, le1 := by have := hI.le1; dsimp only at this ⊢; omega, dx0 := hI.dx0, xE0 := hI.xE0, dx1 := hI.dx1, xE1 := hI.xE1 }
      · refine nd_one (pre := [L + 1, aS, aM, x0, d0, E0]) (mid := [M0]) (post := [x1, d1, E1, M1]) hI.nd fun b hb => ?_
        simp only [List.cons_append, List.nil_append, List.mem_cons, List.not_mem_nil, or_false] at hb
        rcases hb with h | h | h | h | h | h | h | h | h | h <;> (subst h; first | assumption | (apply Ne.symm; assumption))
      · have q12 := hI.le0
        have q13 := List.length_erase_le (a := r) (l := R0)
        dsimp only at q12 ⊢
        omega
  · rw [decide_eq_false hr] at Fb
    refine land_top (X := "KeyError") (T' := "KeyError") K0 Fb hup hRz rfl kr_isExc_KeyError kr_notTuple_KeyError (by rw [isSubtype_type]; kernel_rfl) (fun h2 Fc Nc => ?_) (fun A' E1 Q1 s₁ F1 hq => ?_) (hE e)
    · k_steps
      have N4 : News _ _ _ ((L + 1, oc) :: (aS, listOf (List.toArray (pr2 k (.ref x0) (.ref x1))) cS) :: (aM, listOf (List.toArray (pr2 k (.ref M0) (.ref M1))) cM) :: (x0, instObj 92 d0) :: (d0, itemsD w E0 t0 n0) :: (E0, listOf (List.toArray us0) cu0) :: (M0, listOf (List.toArray ms0) c0) :: (x1, instObj 92 d1) :: (d1, itemsD w E1 t1 n1) :: (E1, listOf (List.toArray us1) cu1) :: (M1, listOf (List.toArray ms1) c1) :: T) := pick [3, 4, 5, 0, 1, 2, 6, 7, 8, 9, 10] 11 Nc
      refine hret _ _ _ ⟨oc, cS, cM, x0, d0, E0, M0, t0, n0, cu0, c0, us0, ms0, R0, x1, d1, E1, M1, t1, n1, cu1, c1, us1, ms1, R1⟩ T Fc N4 (fun _ h => h) hoff hI.succ (fun z hz1 hz2 => if_neg fun e => by subst e; exact absurd hz2 (by decide))
    · exact nameX_B (cl := [("row", L + 1)]) F1 KX (topRead_of TB) (by k_is) PyProof.Rows.Boot.«KeyError» (by decide) hq
end Mine
end
/-! part K2 -/
section
open PySem PySem.W PyProof.Rows PySem.Spec PySem.Calls
set_option maxRecDepth 100000
set_option maxHeartbeats 8000000
set_option hygiene false
namespace Mine
local macro_rules | `(tactic| walk_at "eval ListComp") => `(tactic| ((with_reducible show wpAny _ _ (eval (Expr.ListComp _ _ _ _) _) _ _ _); refine Hold.keep ?_))
local macro_rules | `(tactic| walk_at "subscriptTail") => `(tactic| ((with_reducible show wpAny _ _ (subscriptTail _ _ (Value.ref _) (Value.int _ _)) _ _ _); refine Hold.keep ?_))
local macro_rules | `(tactic| walk_at "subscriptTail Name") => `(tactic| ((with_reducible show wpAny _ _ (subscriptTail _ _ (Value.ref _) (Value.int _ _)) _ _ _); refine Hold.keep ?_))
local macro_rules | `(tactic| walk_at "CompSrc") => `(tactic| (refine Hold.keep ?_))
local macro_rules | `(tactic| walk_at "setItem ref int") => `(tactic| (refine Hold.keep ?_))
local macro_rules | `(tactic| walk_at "setItem ref int ref") => `(tactic| (refine Hold.keep ?_))
local macro_rules | `(tactic| walk_at "call ref") => `(tactic| ((with_reducible show wpAny _ _ (call (Value.ref _) _) _ _ _); refine Hold.keep ?_))
local macro_rules | `(tactic| walk_at "call type:list") => `(tactic| ((with_reducible show wpAny _ _ (call (Value.type "list") [Value.ref _]) _ _ _); refine Hold.keep ?_))
local macro_rules | `(tactic| walk_at "binaryOp Add ref ref") => `(tactic| (refine Hold.keep ?_))
local macro_rules | `(tactic| walk_at "compareOp NotEq ref ref") => `(tactic| ((with_reducible show wpAny _ _ (compareOp CmpOp.NotEq (Value.ref _) (Value.ref _)) _ _ _); refine Hold.keep ?_))
local macro_rules | `(tactic| walk_at "compareOp Eq ref ref") => `(tactic| ((with_reducible show wpAny _ _ (compareOp CmpOp.Eq (Value.ref _) (Value.ref _)) _ _ _); refine Hold.keep ?_))
local macro_rules | `(tactic| walk_at "compareOp In") => `(tactic| ((with_reducible show wpAny _ _ (compareOp CmpOp.In (Value.ref _) (Value.ref _)) _ _ _); refine Hold.keep ?_))
theorem kind2 {w : World} {h₀ : Heap} {L fa : Addr} {cw : Value} {mean : ExcName → Option Value} {mg mb u : Str → Option Value} {s : Shared} {E : Value → Shared → Prop} {Q : Flow → Shared → Prop} {i : Nat} {k : Int} {tw : Tok} {aS aM aR aO : Addr} {c : LSt} {T : List (Addr × Obj)} {r q : List Int}
   (K0 : Below callerA h₀ [] h₀) (KX : (Mine.hd.heap_39 w.params).In h₀) (TB : Top Mine.hd.view_39 (looseW Mine.hd.view_39 []) mean mg mb h₀)
   (F : Fr h₀ L s.heap (fun z => if z = Str.ofString "other" then some (.ref aO) else if z = Str.ofString "one" then some (.ref c.x0) else if z = Str.ofString "which" then some (.int k tw) else if z = Str.ofString "models" then some (.ref aM) else if z = Str.ofString "sets" then some (.ref aS) else u z)) (N : News h₀ L s.heap (ledK w k (L + 1) aS aM c ++ T)) (hk : k = 0 ∨ k = 1) (hi : i < 20) (hoff : OwnOff T (mutL (L + 1) aS aM c)) (hI : InvL (L + 1) aS aM i c T) (hcell : c.oc.data = .cell (some (.ref aR))) (hR : RowIn T (.ref aR) r) (hO : RowIn T (.ref aO) q) 
   (hret : ∀ h' tk m' c' T', Fr h₀ L h' m' → News h₀ L h' (ledK w k (L + 1) aS aM c' ++ T') → (∀ p ∈ T, p ∈ T') → OwnOff T' (mutL (L + 1) aS aM c') → InvL (L + 1) aS aM (i + 1) c' T' → (∀ z, z ≠ Str.ofString "number" → storedL.contains z = false → m' z = (fun z => if z = Str.ofString "other" then some (.ref aO) else if z = Str.ofString "one" then some (.ref c.x0) else if z = Str.ofString "which" then some (.int k tw) else if z = Str.ofString "models" then some (.ref aM) else if z = Str.ofString "sets" then some (.ref aS) else u z) z) → Q .next { s with heap := h', toks := tk }) :
   wpAny (model PySem.Challenge.rw_ad6014_01.row.prog w) (callerA.deeper (lawEnv L fa cw)) (execs kS2 (lawEnv L fa cw)) Q E s := by
  revert KX; k_fill; intro KX
  obtain ⟨sc, hsc⟩ : ∃ sc, lawSc = sc := ⟨_, rfl⟩
  have hsc2 := hsc
  conv at hsc2 => lhs; whnf
  unfold lawEnv
  rw [hsc]
  clear hsc
  subst hsc2
  conv in (kS2) => whnf
  obtain ⟨oc, cS, cM, x0, d0, E0, M0, t0, n0, cu0, c0, us0, ms0, R0, x1, d1, E1, M1, t1, n1, cu1, c1, us1, ms1, R1⟩ := c
  simp only [ledK, List.cons_append, List.nil_append] at N F hcell hret
  have hu0 : F2 (RowIn T) us0 R0 := hI.us0
  have hm0 : F2 (RowIn T) ms0 R0 := hI.ms0
  have hu1 : F2 (RowIn T) us1 R1 := hI.us1
  have hm1 : F2 (RowIn T) ms1 R1 := hI.ms1
  have hl0 : R0.length < 60 := by have := hI.le0; dsimp only at this; omega
  have hl1 : R1.length < 60 := by have := hI.le1; dsimp only at this; omega
  k_steps
  refine Hold.out ?_
  have N1 : News _ _ _ ((x0, instObj 92 d0) :: (d0, itemsD w E0 t0 n0) :: (E0, listOf (List.toArray us0) cu0) :: (L + 1, oc) :: (aS, listOf (List.toArray (pr2 k (.ref x0) (.ref x1))) cS) :: (aM, listOf (List.toArray (pr2 k (.ref M0) (.ref M1))) cM) :: (M0, listOf (List.toArray ms0) c0) :: (x1, instObj 92 d1) :: (d1, itemsD w E1 t1 n1) :: (E1, listOf (List.toArray us1) cu1) :: (M1, listOf (List.toArray ms1) c1) :: T) := pick [3, 4, 5, 0, 1, 2, 6, 7, 8, 9, 10] 11 N
  refine bis_call K0 F KX N1 TB rfl (by show callerA.depth + 1 + 10 < recursionLimit; simp only [depth_caller]; decide +kernel) (by decide +kernel) (F2.rows sub8 hu0) hl0 (hR.mono sub8) fun h1 tk1 tv1 Fa Na => ?_
  clear F N N1
  k_steps
  refine Hold.out ?_
  refine item2 Na (by k_mem) (by omega) (by omega) (pr2_at hk _ _) ?_
  k_steps
  refine Hold.out ?_
  refine count_call K0 Fa KX Na TB rfl (by show callerA.depth + 1 + 10 < recursionLimit; simp only [depth_caller]; decide +kernel) (by decide +kernel) (by k_mem) (F2.rows sub11 hm0) hl0 (hR.mono sub11) (hI.st0.imp fun h => List.le_of_lt h) fun h2 tk2 tv2 Fb Nb => ?_
  k_steps
  · rename ¬ _ => hb
    exact absurd rfl hb
  have N2 : News _ _ _ ((L + 1, oc) :: (aS, listOf (List.toArray (pr2 k (.ref x0) (.ref x1))) cS) :: (aM, listOf (List.toArray (pr2 k (.ref M0) (.ref M1))) cM) :: (x0, instObj 92 d0) :: (d0, itemsD w E0 t0 n0) :: (E0, listOf (List.toArray us0) cu0) :: (M0, listOf (List.toArray ms0) c0) :: (x1, instObj 92 d1) :: (d1, itemsD w E1 t1 n1) :: (E1, listOf (List.toArray us1) cu1) :: (M1, listOf (List.toArray ms1) c1) :: T) := pick [3, 4, 5, 0, 1, 2, 6, 7, 8, 9, 10] 11 Nb
  exact hret _ _ _ ⟨oc, cS, cM, x0, d0, E0, M0, t0, n0, cu0, c0, us0, ms0, R0, x1, d1, E1, M1, t1, n1, cu1, c1, us1, ms1, R1⟩ T Fb N2 (fun _ h => h) hoff hI.succ (fun _ _ _ => rfl)
end Mine
end
/-! part K3 -/
section
open PySem PySem.W PyProof.Rows PySem.Spec PySem.Calls
set_option maxRecDepth 100000
set_option maxHeartbeats 8000000
set_option hygiene false
namespace Mine
local macro_rules | `(tactic| walk_at "eval ListComp") => `(tactic| ((with_reducible show wpAny _ _ (eval (Expr.ListComp _ _ _ _) _) _ _ _); refine Hold.keep ?_))
local macro_rules | `(tactic| walk_at "subscriptTail") => `(tactic| ((with_reducible show wpAny _ _ (subscriptTail _ _ (Value.ref _) (Value.int _ _)) _ _ _); refine Hold.keep ?_))
local macro_rules | `(tactic| walk_at "subscriptTail Name") => `(tactic| ((with_reducible show wpAny _ _ (subscriptTail _ _ (Value.ref _) (Value.int _ _)) _ _ _); refine Hold.keep ?_))
local macro_rules | `(tactic| walk_at "CompSrc") => `(tactic| (refine Hold.keep ?_))
local macro_rules | `(tactic| walk_at "setItem ref int") => `(tactic| (refine Hold.keep ?_))
local macro_rules | `(tactic| walk_at "setItem ref int ref") => `(tactic| (refine Hold.keep ?_))
local macro_rules | `(tactic| walk_at "call ref") => `(tactic| ((with_reducible show wpAny _ _ (call (Value.ref _) _) _ _ _); refine Hold.keep ?_))
local macro_rules | `(tactic| walk_at "call type:list") => `(tactic| ((with_reducible show wpAny _ _ (call (Value.type "list") [Value.ref _]) _ _ _); refine Hold.keep ?_))
local macro_rules | `(tactic| walk_at "binaryOp Add ref ref") => `(tactic| (refine Hold.keep ?_))
local macro_rules | `(tactic| walk_at "compareOp NotEq ref ref") => `(tactic| ((with_reducible show wpAny _ _ (compareOp CmpOp.NotEq (Value.ref _) (Value.ref _)) _ _ _); refine Hold.keep ?_))
local macro_rules | `(tactic| walk_at "compareOp Eq ref ref") => `(tactic| ((with_reducible show wpAny _ _ (compareOp CmpOp.Eq (Value.ref _) (Value.ref _)) _ _ _); refine Hold.keep ?_))
local macro_rules | `(tactic| walk_at "compareOp In") => `(tactic| ((with_reducible show wpAny _ _ (compareOp CmpOp.In (Value.ref _) (Value.ref _)) _ _ _); refine Hold.keep ?_))
theorem kind3 {w : World} {h₀ : Heap} {L fa : Addr} {cw : Value} {mean : ExcName → Option Value} {mg mb u : Str → Option Value} {s : Shared} {E : Value → Shared → Prop} {Q : Flow → Shared → Prop} {i : Nat} {k : Int} {tw : Tok} {aS aM aR aO : Addr} {c : LSt} {T : List (Addr × Obj)} {r q : List Int}
   (K0 : Below callerA h₀ [] h₀) (KX : (Mine.hd.heap_39 w.params).In h₀) (TB : Top Mine.hd.view_39 (looseW Mine.hd.view_39 []) mean mg mb h₀)
   (F : Fr h₀ L s.heap (fun z => if z = Str.ofString "other" then some (.ref aO) else if z = Str.ofString "one" then some (.ref c.x0) else if z = Str.ofString "which" then some (.int k tw) else if z = Str.ofString "models" then some (.ref aM) else if z = Str.ofString "sets" then some (.ref aS) else u z)) (N : News h₀ L s.heap (ledK w k (L + 1) aS aM c ++ T)) (hk : k = 0 ∨ k = 1) (hi : i < 20) (hoff : OwnOff T (mutL (L + 1) aS aM c)) (hI : InvL (L + 1) aS aM i c T) (hcell : c.oc.data = .cell (some (.ref aR))) (hR : RowIn T (.ref aR) r) (hO : RowIn T (.ref aO) q) 
   (hret : ∀ h' tk m' c' T', Fr h₀ L h' m' → News h₀ L h' (ledK w k (L + 1) aS aM c' ++ T') → (∀ p ∈ T, p ∈ T') → OwnOff T' (mutL (L + 1) aS aM c') → InvL (L + 1) aS aM (i + 1) c' T' → (∀ z, z ≠ Str.ofString "number" → storedL.contains z = false → m' z = (fun z => if z = Str.ofString "other" then some (.ref aO) else if z = Str.ofString "one" then some (.ref c.x0) else if z = Str.ofString "which" then some (.int k tw) else if z = Str.ofString "models" then some (.ref aM) else if z = Str.ofString "sets" then some (.ref aS) else u z) z) → Q .next { s with heap := h', toks := tk }) :
   wpAny (model PySem.Challenge.rw_ad6014_01.row.prog w) (callerA.deeper (lawEnv L fa cw)) (execs kS3 (lawEnv L fa cw)) Q E s := by
  revert KX; k_fill; intro KX
  obtain ⟨sc, hsc⟩ : ∃ sc, lawSc = sc := ⟨_, rfl⟩
  have hsc2 := hsc
  conv at hsc2 => lhs; whnf
  unfold lawEnv
  rw [hsc]
  clear hsc
  subst hsc2
  conv in (kS3) => whnf
  obtain ⟨oc, cS, cM, x0, d0, E0, M0, t0, n0, cu0, c0, us0, ms0, R0, x1, d1, E1, M1, t1, n1, cu1, c1, us1, ms1, R1⟩ := c
  simp only [ledK, List.cons_append, List.nil_append] at N F hcell hret
  have hu0 : F2 (RowIn T) us0 R0 := hI.us0
  have hm0 : F2 (RowIn T) ms0 R0 := hI.ms0
  have hu1 : F2 (RowIn T) us1 R1 := hI.us1
  have hm1 : F2 (RowIn T) ms1 R1 := hI.ms1
  have hl0 : R0.length < 60 := by have := hI.le0; dsimp only at this; omega
  have hl1 : R1.length < 60 := by have := hI.le1; dsimp only at this; omega
  k_steps
  refine Hold.out ?_
  have N1 : News _ _ _ ((x0, instObj 92 d0) :: (d0, itemsD w E0 t0 n0) :: (E0, listOf (List.toArray us0) cu0) :: (L + 1, oc) :: (aS, listOf (List.toArray (pr2 k (.ref x0) (.ref x1))) cS) :: (aM, listOf (List.toArray (pr2 k (.ref M0) (.ref M1))) cM) :: (M0, listOf (List.toArray ms0) c0) :: (x1, instObj 92 d1) :: (d1, itemsD w E1 t1 n1) :: (E1, listOf (List.toArray us1) cu1) :: (M1, listOf (List.toArray ms1) c1) :: T) := pick [3, 4, 5, 0, 1, 2, 6, 7, 8, 9, 10] 11 N
  refine has_call K0 F KX N1 TB rfl (by show callerA.depth + 1 + 10 < recursionLimit; simp only [depth_caller]; decide +kernel) (by decide +kernel) (F2.rows sub8 hu0) hl0 (hR.mono sub8) fun h1 tk1 Fa Na => ?_
  clear F N N1
  k_steps
  refine Hold.out ?_
  refine item2 Na (by k_mem) (by omega) (by omega) (pr2_at hk _ _) ?_
  k_steps
  refine Hold.out ?_
  refine in_rowsN Na (by k_mem) (F2.rows sub11 hm0) (hR.mono sub11) (by show (Around.deeper _ _).units + 64 < cLine; simp only [Around.deeper_units]; decide +kernel) ?_
  k_steps
  · rename _ = true => hb
    exact absurd hb (by simp)
  have N2 : News _ _ _ ((L + 1, oc) :: (aS, listOf (List.toArray (pr2 k (.ref x0) (.ref x1))) cS) :: (aM, listOf (List.toArray (pr2 k (.ref M0) (.ref M1))) cM) :: (x0, instObj 92 d0) :: (d0, itemsD w E0 t0 n0) :: (E0, listOf (List.toArray us0) cu0) :: (M0, listOf (List.toArray ms0) c0) :: (x1, instObj 92 d1) :: (d1, itemsD w E1 t1 n1) :: (E1, listOf (List.toArray us1) cu1) :: (M1, listOf (List.toArray ms1) c1) :: T) := pick [3, 4, 5, 0, 1, 2, 6, 7, 8, 9, 10] 11 Na
  exact hret _ _ _ ⟨oc, cS, cM, x0, d0, E0, M0, t0, n0, cu0, c0, us0, ms0, R0, x1, d1, E1, M1, t1, n1, cu1, c1, us1, ms1, R1⟩ T Fa N2 (fun _ h => h) hoff hI.succ (fun _ _ _ => rfl)
end Mine
end
/-! part K4 -/
section
open PySem PySem.W PyProof.Rows PySem.Spec PySem.Calls
set_option maxRecDepth 100000
set_option maxHeartbeats 8000000
set_option hygiene false
namespace Mine
local macro_rules | `(tactic| walk_at "eval ListComp") => `(tactic| ((with_reducible show wpAny _ _ (eval (Expr.ListComp _ _ _ _) _) _ _ _); refine Hold.keep ?_))
local macro_rules | `(tactic| walk_at "subscriptTail") => `(tactic| ((with_reducible show wpAny _ _ (subscriptTail _ _ (Value.ref _) (Value.int _ _)) _ _ _); refine Hold.keep ?_))
local macro_rules | `(tactic| walk_at "subscriptTail Name") => `(tactic| ((with_reducible show wpAny _ _ (subscriptTail _ _ (Value.ref _) (Value.int _ _)) _ _ _); refine Hold.keep ?_))
local macro_rules | `(tactic| walk_at "CompSrc") => `(tactic| (refine Hold.keep ?_))
local macro_rules | `(tactic| walk_at "setItem ref int") => `(tactic| (refine Hold.keep ?_))
local macro_rules | `(tactic| walk_at "setItem ref int ref") => `(tactic| (refine Hold.keep ?_))
local macro_rules | `(tactic| walk_at "call ref") => `(tactic| ((with_reducible show wpAny _ _ (call (Value.ref _) _) _ _ _); refine Hold.keep ?_))
local macro_rules | `(tactic| walk_at "call type:list") => `(tactic| ((with_reducible show wpAny _ _ (call (Value.type "list") [Value.ref _]) _ _ _); refine Hold.keep ?_))
local macro_rules | `(tactic| walk_at "binaryOp Add ref ref") => `(tactic| (refine Hold.keep ?_))
local macro_rules | `(tactic| walk_at "compareOp NotEq ref ref") => `(tactic| ((with_reducible show wpAny _ _ (compareOp CmpOp.NotEq (Value.ref _) (Value.ref _)) _ _ _); refine Hold.keep ?_))
local macro_rules | `(tactic| walk_at "compareOp Eq ref ref") => `(tactic| ((with_reducible show wpAny _ _ (compareOp CmpOp.Eq (Value.ref _) (Value.ref _)) _ _ _); refine Hold.keep ?_))
local macro_rules | `(tactic| walk_at "compareOp In") => `(tactic| ((with_reducible show wpAny _ _ (compareOp CmpOp.In (Value.ref _) (Value.ref _)) _ _ _); refine Hold.keep ?_))
theorem kind4 {w : World} {h₀ : Heap} {L fa : Addr} {cw : Value} {mean : ExcName → Option Value} {mg mb u : Str → Option Value} {s : Shared} {E : Value → Shared → Prop} {Q : Flow → Shared → Prop} {i : Nat} {k : Int} {tw : Tok} {aS aM aR aO : Addr} {c : LSt} {T : List (Addr × Obj)} {r q : List Int}
   (K0 : Below callerA h₀ [] h₀) (KX : (Mine.hd.heap_39 w.params).In h₀) (TB : Top Mine.hd.view_39 (looseW Mine.hd.view_39 []) mean mg mb h₀)
   (F : Fr h₀ L s.heap (fun z => if z = Str.ofString "other" then some (.ref aO) else if z = Str.ofString "one" then some (.ref c.x0) else if z = Str.ofString "which" then some (.int k tw) else if z = Str.ofString "models" then some (.ref aM) else if z = Str.ofString "sets" then some (.ref aS) else u z)) (N : News h₀ L s.heap (ledK w k (L + 1) aS aM c ++ T)) (hk : k = 0 ∨ k = 1) (hi : i < 20) (hoff : OwnOff T (mutL (L + 1) aS aM c)) (hI : InvL (L + 1) aS aM i c T) (hcell : c.oc.data = .cell (some (.ref aR))) (hR : RowIn T (.ref aR) r) (hO : RowIn T (.ref aO) q) 
   (hret : ∀ h' tk m' c' T', Fr h₀ L h' m' → News h₀ L h' (ledK w k (L + 1) aS aM c' ++ T') → (∀ p ∈ T, p ∈ T') → OwnOff T' (mutL (L + 1) aS aM c') → InvL (L + 1) aS aM (i + 1) c' T' → (∀ z, z ≠ Str.ofString "number" → storedL.contains z = false → m' z = (fun z => if z = Str.ofString "other" then some (.ref aO) else if z = Str.ofString "one" then some (.ref c.x0) else if z = Str.ofString "which" then some (.int k tw) else if z = Str.ofString "models" then some (.ref aM) else if z = Str.ofString "sets" then some (.ref aS) else u z) z) → Q .next { s with heap := h', toks := tk }) :
   wpAny (model PySem.Challenge.rw_ad6014_01.row.prog w) (callerA.deeper (lawEnv L fa cw)) (execs kS4 (lawEnv L fa cw)) Q E s := by
  revert KX; k_fill; intro KX
  obtain ⟨sc, hsc⟩ : ∃ sc, lawSc = sc := ⟨_, rfl⟩
  have hsc2 := hsc
  conv at hsc2 => lhs; whnf
  unfold lawEnv
  rw [hsc]
  clear hsc
  subst hsc2
  conv in (kS4) => whnf
  obtain ⟨oc, cS, cM, x0, d0, E0, M0, t0, n0, cu0, c0, us0, ms0, R0, x1, d1, E1, M1, t1, n1, cu1, c1, us1, ms1, R1⟩ := c
  simp only [ledK, List.cons_append, List.nil_append] at N F hcell hret
  have hu0 : F2 (RowIn T) us0 R0 := hI.us0
  have hm0 : F2 (RowIn T) ms0 R0 := hI.ms0
  have hu1 : F2 (RowIn T) us1 R1 := hI.us1
  have hm1 : F2 (RowIn T) ms1 R1 := hI.ms1
  have hl0 : R0.length < 60 := by have := hI.le0; dsimp only at this; omega
  have hl1 : R1.length < 60 := by have := hI.le1; dsimp only at this; omega
  k_steps
  refine Hold.out ?_
  refine item2 N (.tail _ (.head _)) (by omega) (by omega) (pr2_off hk _ _) ?_
  k_steps
  refine Hold.out ?_
  have N1 : News _ _ _ ((x1, instObj 92 d1) :: (d1, itemsD w E1 t1 n1) :: (E1, listOf (List.toArray us1) cu1) :: (L + 1, oc) :: (aS, listOf (List.toArray (pr2 k (.ref x0) (.ref x1))) cS) :: (aM, listOf (List.toArray (pr2 k (.ref M0) (.ref M1))) cM) :: (x0, instObj 92 d0) :: (d0, itemsD w E0 t0 n0) :: (E0, listOf (List.toArray us0) cu0) :: (M0, listOf (List.toArray ms0) c0) :: (M1, listOf (List.toArray ms1) c1) :: T) := pick [7, 8, 9, 0, 1, 2, 3, 4, 5, 6, 10] 11 N
  refine cpy_call K0 F KX N1 TB rfl (by show callerA.depth + 1 + 20 < recursionLimit; simp only [depth_caller]; decide +kernel) (by decide +kernel) (R := T) sub8 hu1 hl1 fun x' d' E' us' ts' c' n' t' h1 tk1 Fa Na hxE hdx hfr hus' hcan => ?_
  have hts : R1 = ts' := Canon.uniq ⟨hI.st1, fun _ => Iff.rfl⟩ hcan
  subst hts
  clear F N N1
  k_steps
  refine Hold.out ?_
  have N2 : News _ _ _ ((aS, listOf (List.toArray (pr2 k (.ref x0) (.ref x1))) cS) :: (E', listOf (List.toArray us') c') :: (x', instObj 92 d') :: (d', itemsD w E' t' n') :: (L + 1, oc) :: (aM, listOf (List.toArray (pr2 k (.ref M0) (.ref M1))) cM) :: (x0, instObj 92 d0) :: (d0, itemsD w E0 t0 n0) :: (E0, listOf (List.toArray us0) cu0) :: (M0, listOf (List.toArray ms0) c0) :: (x1, instObj 92 d1) :: (d1, itemsD w E1 t1 n1) :: (E1, listOf (List.toArray us1) cu1) :: (M1, listOf (List.toArray ms1) c1) :: T) := pick [7, 0, 1, 2, 6, 8, 9, 10, 11, 12, 3, 4, 5, 13] 14 Na
  have hS' : aS < d' := hfr _ (by k_mem : (aS, listOf (List.toArray (pr2 k (.ref x0) (.ref x1))) cS) ∈ _)
  have hM' : aM < d' := hfr _ (by k_mem : (aM, listOf (List.toArray (pr2 k (.ref M0) (.ref M1))) cM) ∈ _)
  refine store2 Fa N2 (List.forall_mem_cons.mpr ⟨Nat.ne_of_gt (Nat.lt_trans hS' (Nat.lt_trans hdx hxE)), List.forall_mem_cons.mpr ⟨Nat.ne_of_gt (Nat.lt_trans hS' hdx), List.forall_mem_cons.mpr ⟨Nat.ne_of_gt hS', offS hI hoff⟩⟩⟩) hk fun h2 Fb Nb => ?_
  clear Fa Na N2
  k_steps
  refine Hold.out ?_
  refine item2 Nb (by k_mem) (by omega) (by omega) (pr2_off hk _ _) ?_
  k_steps
  refine Hold.out ?_
  refine list_copyK Fb Nb ⟨_, (Nb _ (by k_mem : (M1, listOf (List.toArray ms1) c1) ∈ _)).1, rfl, c1, rfl⟩ (fun M' cm' h3 Fc Nc hfM => ?_) (by rw [List.size_toArray, sizeLine_eq]; have := hm1.length; omega)
  clear Fb Nb
  k_steps
  refine Hold.out ?_
  have hEM : E' < M' := hfM _ (by k_mem : (E', listOf (List.toArray us') c') ∈ _)
  have N3 : News _ _ _ ((aM, listOf (List.toArray (pr2 k (.ref M0) (.ref M1))) cM) :: (M', listOf (List.toArray ms1) cm') :: (E', listOf (List.toArray us') c') :: (x', instObj 92 d') :: (d', itemsD w E' t' n') :: (L + 1, oc) :: (aS, listOf (List.toArray (pr2 k (.ref x') (.ref x1))) cS) :: (x0, instObj 92 d0) :: (d0, itemsD w E0 t0 n0) :: (E0, listOf (List.toArray us0) cu0) :: (M0, listOf (List.toArray ms0) c0) :: (x1, instObj 92 d1) :: (d1, itemsD w E1 t1 n1) :: (E1, listOf (List.toArray us1) cu1) :: (M1, listOf (List.toArray ms1) c1) :: T) := pick [6, 0, 2, 3, 4, 5, 1, 7, 8, 9, 10, 11, 12, 13, 14] 15 Nc
  refine store2 Fc N3 (List.forall_mem_cons.mpr ⟨Nat.ne_of_gt (Nat.lt_trans hM' (Nat.lt_trans hdx (Nat.lt_trans hxE hEM))), List.forall_mem_cons.mpr ⟨Nat.ne_of_gt (Nat.lt_trans hM' (Nat.lt_trans hdx hxE)), List.forall_mem_cons.mpr ⟨Nat.ne_of_gt (Nat.lt_trans hM' hdx), List.forall_mem_cons.mpr ⟨Nat.ne_of_gt hM', offM hI hoff⟩⟩⟩⟩) hk fun h4 Fd Nd => ?_
  clear Fc Nc N3
  k_steps
  have N4 : News _ _ _ ((L + 1, oc) :: (aS, listOf (List.toArray (pr2 k (.ref x') (.ref x1))) cS) :: (aM, listOf (List.toArray (pr2 k (.ref M') (.ref M1))) cM) :: (x', instObj 92 d') :: (d', itemsD w E' t' n') :: (E', listOf (List.toArray us') c') :: (M', listOf (List.toArray ms1) cm') :: (x1, instObj 92 d1) :: (d1, itemsD w E1 t1 n1) :: (E1, listOf (List.toArray us1) cu1) :: (M1, listOf (List.toArray ms1) c1) :: T) := pick [5, 6, 0, 3, 4, 2, 1, 11, 12, 13, 14] 15 Nd
  have hlt := lt_map hfr
  simp only [List.map_cons, List.mem_cons, forall_eq_or_imp] at hlt
  obtain ⟨q1, q2, q3, q4, q5, q6, q7, q8, q9, q10, q11, qT⟩ := hlt
  refine hret _ _ _ ⟨oc, cS, cM, x', d', E', M', t', n', c', cm', us', ms1, R1, x1, d1, E1, M1, t1, n1, cu1, c1, us1, ms1, R1⟩ T Fd N4 (fun _ h => h) ?_ ?_ (fun _ _ _ => rfl)
  · intro p hp b hb
    have hpT := hfr p (sub11 p hp)
    simp only [mutL, List.mem_cons, List.not_mem_nil, or_false] at hb
    rcases hb with hb | hb | hb | hb | hb | hb | hb
    · exact hoff p hp b (by simp [mutL, hb])
    · exact hoff p hp b (by simp [mutL, hb])
    · exact hoff p hp b (by simp [mutL, hb])
    · subst hb; exact Nat.ne_of_lt hpT
    · subst hb; exact Nat.ne_of_lt (Nat.lt_trans hpT (Nat.lt_trans hdx hxE))
    · exact hoff p hp b (by simp [mutL, hb])
    · exact hoff p hp b (by simp [mutL, hb])
  · refine { cell := hI.cell, nd := ?_, us0 := hus', ms0 := hm1, us1 := hu1, ms1 := hm1, st0 := hI.st1, st1 := hI.st1, le0 := by have := hI.le1; dsimp only at this ⊢; omega, le1 := by have := hI.le1; dsimp only at this ⊢; omega, dx0 := hdx, xE0 := hxE, dx1 := hI.dx1, xE1 := hI.xE1 }
    refine nd_mid (pre := [L + 1, aS, aM]) (mid := [x0, d0, E0, M0]) (fs := [x', d', E', M']) (post := [x1, d1, E1, M1]) hI.nd ?_ ?_
    · simp only [List.nodup_cons, List.mem_cons, List.not_mem_nil, or_false, not_or, not_false_eq_true, List.nodup_nil, and_true]
      refine ⟨⟨Nat.ne_of_gt hdx, Nat.ne_of_lt hxE, Nat.ne_of_lt (Nat.lt_trans hxE hEM)⟩, ⟨Nat.ne_of_lt (Nat.lt_trans hdx hxE), Nat.ne_of_lt (Nat.lt_trans hdx (Nat.lt_trans hxE hEM))⟩, Nat.ne_of_lt hEM⟩
    · intro a ha b hb
      have hb' : b < d' := by
        simp only [List.cons_append, List.nil_append, List.mem_cons, List.not_mem_nil, or_false] at hb
        rcases hb with h | h | h | h | h | h | h <;> (subst h; assumption)
      have hda : d' ≤ a := by
        simp only [List.mem_cons, List.not_mem_nil, or_false] at ha
        rcases ha with h | h | h | h
        · subst h; exact Nat.le_of_lt hdx
        · subst h; exact Nat.le_refl _
        · subst h; exact Nat.le_of_lt (Nat.lt_trans hdx hxE)
        · subst h; exact Nat.le_of_lt (Nat.lt_trans hdx (Nat.lt_trans hxE hEM))
      exact Nat.lt_of_lt_of_le hb' hda
end Mine
end
/-! part K5 -/
section
open PySem PySem.W PyProof.Rows PySem.Spec PySem.Calls
set_option maxRecDepth 100000
set_option maxHeartbeats 8000000
set_option hygiene false
namespace Mine
local macro_rules | `(tactic| walk_at "eval ListComp") => `(tactic| ((with_reducible show wpAny _ _ (eval (Expr.ListComp _ _ _ _) _) _ _ _); refine Hold.keep ?_))
local macro_rules | `(tactic| walk_at "subscriptTail") => `(tactic| ((with_reducible show wpAny _ _ (subscriptTail _ _ (Value.ref _) (Value.int _ _)) _ _ _); refine Hold.keep ?_))
local macro_rules | `(tactic| walk_at "subscriptTail Name") => `(tactic| ((with_reducible show wpAny _ _ (subscriptTail _ _ (Value.ref _) (Value.int _ _)) _ _ _); refine Hold.keep ?_))
local macro_rules | `(tactic| walk_at "CompSrc") => `(tactic| (refine Hold.keep ?_))
local macro_rules | `(tactic| walk_at "setItem ref int") => `(tactic| (refine Hold.keep ?_))
local macro_rules | `(tactic| walk_at "setItem ref int ref") => `(tactic| (refine Hold.keep ?_))
local macro_rules | `(tactic| walk_at "call ref") => `(tactic| ((with_reducible show wpAny _ _ (call (Value.ref _) _) _ _ _); refine Hold.keep ?_))
local macro_rules | `(tactic| walk_at "call type:list") => `(tactic| ((with_reducible show wpAny _ _ (call (Value.type "list") [Value.ref _]) _ _ _); refine Hold.keep ?_))
local macro_rules | `(tactic| walk_at "binaryOp Add ref ref") => `(tactic| (refine Hold.keep ?_))
local macro_rules | `(tactic| walk_at "compareOp NotEq ref ref") => `(tactic| ((with_reducible show wpAny _ _ (compareOp CmpOp.NotEq (Value.ref _) (Value.ref _)) _ _ _); refine Hold.keep ?_))
local macro_rules | `(tactic| walk_at "compareOp Eq ref ref") => `(tactic| ((with_reducible show wpAny _ _ (compareOp CmpOp.Eq (Value.ref _) (Value.ref _)) _ _ _); refine Hold.keep ?_))
local macro_rules | `(tactic| walk_at "compareOp In") => `(tactic| ((with_reducible show wpAny _ _ (compareOp CmpOp.In (Value.ref _) (Value.ref _)) _ _ _); refine Hold.keep ?_))
theorem kind5 {w : World} {h₀ : Heap} {L fa : Addr} {cw : Value} {mean : ExcName → Option Value} {mg mb u : Str → Option Value} {s : Shared} {E : Value → Shared → Prop} {Q : Flow → Shared → Prop} {i : Nat} {k : Int} {tw : Tok} {aS aM aR aO xo : Addr} {c : LSt} {T : List (Addr × Obj)} {r q : List Int}
   (K0 : Below callerA h₀ [] h₀) (KX : (Mine.hd.heap_39 w.params).In h₀) (TB : Top Mine.hd.view_39 (looseW Mine.hd.view_39 []) mean mg mb h₀)
   (F : Fr h₀ L s.heap (fun z => if z = Str.ofString "other" then some (.ref aO) else if z = Str.ofString "one" then some (.ref xo) else if z = Str.ofString "which" then some (.int k tw) else if z = Str.ofString "models" then some (.ref aM) else if z = Str.ofString "sets" then some (.ref aS) else u z)) (N : News h₀ L s.heap (ledL w (L + 1) aS aM c ++ T)) (hk : k = 0 ∨ k = 1) (hi : i < 20) (hoff : OwnOff T (mutL (L + 1) aS aM c)) (hI : InvL (L + 1) aS aM i c T) (hcell : c.oc.data = .cell (some (.ref aR))) (hR : RowIn T (.ref aR) r) (hO : RowIn T (.ref aO) q) 
   (hret : ∀ h' tk m' c' T', Fr h₀ L h' m' → News h₀ L h' (ledL w (L + 1) aS aM c' ++ T') → (∀ p ∈ T, p ∈ T') → OwnOff T' (mutL (L + 1) aS aM c') → InvL (L + 1) aS aM (i + 1) c' T' → (∀ z, z ≠ Str.ofString "number" → storedL.contains z = false → m' z = (fun z => if z = Str.ofString "other" then some (.ref aO) else if z = Str.ofString "one" then some (.ref xo) else if z = Str.ofString "which" then some (.int k tw) else if z = Str.ofString "models" then some (.ref aM) else if z = Str.ofString "sets" then some (.ref aS) else u z) z) → Q .next { s with heap := h', toks := tk }) :
   wpAny (model PySem.Challenge.rw_ad6014_01.row.prog w) (callerA.deeper (lawEnv L fa cw)) (execs kS5 (lawEnv L fa cw)) Q E s := by
  revert KX; k_fill; intro KX
  obtain ⟨sc, hsc⟩ : ∃ sc, lawSc = sc := ⟨_, rfl⟩
  have hsc2 := hsc
  conv at hsc2 => lhs; whnf
  unfold lawEnv
  rw [hsc]
  clear hsc
  subst hsc2
  conv in (kS5) => whnf
  obtain ⟨oc, cS, cM, x0, d0, E0, M0, t0, n0, cu0, c0, us0, ms0, R0, x1, d1, E1, M1, t1, n1, cu1, c1, us1, ms1, R1⟩ := c
  simp only [ledL, List.cons_append, List.nil_append] at N F hcell hret
  have hu0 : F2 (RowIn T) us0 R0 := hI.us0
  have hm0 : F2 (RowIn T) ms0 R0 := hI.ms0
  have hu1 : F2 (RowIn T) us1 R1 := hI.us1
  have hm1 : F2 (RowIn T) ms1 R1 := hI.ms1
  have hl0 : R0.length < 60 := by have := hI.le0; dsimp only at this; omega
  have hl1 : R1.length < 60 := by have := hI.le1; dsimp only at this; omega
  k_steps
  refine Hold.out ?_
  refine kim_list N (.tail _ (.head _)) rfl rfl (by decide) (by decide) (x := .ref x0) rfl ?_
  k_steps
  refine Hold.out ?_
  refine kim_list N (.tail _ (.head _)) rfl rfl (by decide) (by decide) (x := .ref x1) rfl ?_
  k_steps
  refine Hold.out ?_
  have N1 : News _ _ _ ((x0, instObj 92 d0) :: (d0, itemsD w E0 t0 n0) :: (E0, listOf (List.toArray us0) cu0) :: (x1, instObj 92 d1) :: (d1, itemsD w E1 t1 n1) :: (E1, listOf (List.toArray us1) cu1) :: (L + 1, oc) :: (aS, listOf (List.toArray [.ref x0, .ref x1]) cS) :: (aM, listOf (List.toArray [.ref M0, .ref M1]) cM) :: (M0, listOf (List.toArray ms0) c0) :: (M1, listOf (List.toArray ms1) c1) :: T) := pick [3, 4, 5, 7, 8, 9, 0, 1, 2, 6, 10] 11 N
  refine eq_call K0 F KX N1 TB rfl (by show callerA.depth + 1 + 10 < recursionLimit; simp only [depth_caller]; decide +kernel) (by decide +kernel) (F2.rows sub5 hu0) (F2.rows sub5 hu1) fun h1 tk1 Fa Na => ?_
  clear F N N1
  have N2 : News _ _ _ ((L + 1, oc) :: (aS, listOf (List.toArray [.ref x0, .ref x1]) cS) :: (aM, listOf (List.toArray [.ref M0, .ref M1]) cM) :: (x0, instObj 92 d0) :: (d0, itemsD w E0 t0 n0) :: (E0, listOf (List.toArray us0) cu0) :: (M0, listOf (List.toArray ms0) c0) :: (x1, instObj 92 d1) :: (d1, itemsD w E1 t1 n1) :: (E1, listOf (List.toArray us1) cu1) :: (M1, listOf (List.toArray ms1) c1) :: T) := pick [6, 7, 8, 0, 1, 2, 9, 3, 4, 5, 10] 11 Na
  clear Na
  k_steps
  refine Hold.out ?_
  refine kim_list N2 (.tail _ (.tail _ (.head _))) rfl rfl (by decide) (by decide) (x := .ref M0) rfl ?_
  k_steps
  refine Hold.out ?_
  refine kim_list N2 (.tail _ (.tail _ (.head _))) rfl rfl (by decide) (by decide) (x := .ref M1) rfl ?_
  k_steps
  refine Hold.out ?_
  refine eq_listsN N2 (by k_mem) (by k_mem) (F2.rows sub11 hm0) (F2.rows sub11 hm1) (by show (Around.deeper _ _).units + 64 < cLine; simp only [Around.deeper_units]; decide +kernel) ?_
  k_steps
  · rename _ = true => hb
    exact absurd hb (by simp)
  refine Hold.out ?_
  refine kim_list N2 (.tail _ (.head _)) rfl rfl (by decide) (by decide) (x := .ref x0) rfl ?_
  k_steps
  refine Hold.out ?_
  refine kim_list N2 (.tail _ (.tail _ (.head _))) rfl rfl (by decide) (by decide) (x := .ref M0) rfl ?_
  k_steps
  refine Hold.out ?_
  have N3 : News _ _ _ ((x0, instObj 92 d0) :: (d0, itemsD w E0 t0 n0) :: (E0, listOf (List.toArray us0) cu0) :: (M0, listOf (List.toArray ms0) c0) :: (L + 1, oc) :: (aS, listOf (List.toArray [.ref x0, .ref x1]) cS) :: (aM, listOf (List.toArray [.ref M0, .ref M1]) cM) :: (x1, instObj 92 d1) :: (d1, itemsD w E1 t1 n1) :: (E1, listOf (List.toArray us1) cu1) :: (M1, listOf (List.toArray ms1) c1) :: T) := pick [3, 4, 5, 6, 0, 1, 2, 7, 8, 9, 10] 11 N2
  refine eqL_call K0 Fa KX N3 TB rfl (by show callerA.depth + 1 + 10 < recursionLimit; simp only [depth_caller]; decide +kernel) (by decide +kernel) fun h2 tk2 Fb Nb => ?_
  clear Fa N2 N3
  k_steps
  have N4 : News _ _ _ ((L + 1, oc) :: (aS, listOf (List.toArray [.ref x0, .ref x1]) cS) :: (aM, listOf (List.toArray [.ref M0, .ref M1]) cM) :: (x0, instObj 92 d0) :: (d0, itemsD w E0 t0 n0) :: (E0, listOf (List.toArray us0) cu0) :: (M0, listOf (List.toArray ms0) c0) :: (x1, instObj 92 d1) :: (d1, itemsD w E1 t1 n1) :: (E1, listOf (List.toArray us1) cu1) :: (M1, listOf (List.toArray ms1) c1) :: T) := pick [4, 5, 6, 0, 1, 2, 3, 7, 8, 9, 10] 11 Nb
  exact hret _ _ _ ⟨oc, cS, cM, x0, d0, E0, M0, t0, n0, cu0, c0, us0, ms0, R0, x1, d1, E1, M1, t1, n1, cu1, c1, us1, ms1, R1⟩ T Fb N4 (fun _ h => h) hoff hI.succ (fun _ _ _ => rfl)
end Mine
end
/-! part KU -/
section
open PySem PySem.W PyProof.Rows PySem.Spec PySem.Calls
set_option maxRecDepth 100000
set_option maxHeartbeats 8000000
set_option hygiene false
namespace Mine
local macro_rules | `(tactic| walk_at "eval ListComp") => `(tactic| ((with_reducible show wpAny _ _ (eval (Expr.ListComp _ _ _ _) _) _ _ _); refine Hold.keep ?_))
local macro_rules | `(tactic| walk_at "subscriptTail") => `(tactic| ((with_reducible show wpAny _ _ (subscriptTail _ _ (Value.ref _) (Value.int _ _)) _ _ _); refine Hold.keep ?_))
local macro_rules | `(tactic| walk_at "subscriptTail Name") => `(tactic| ((with_reducible show wpAny _ _ (subscriptTail _ _ (Value.ref _) (Value.int _ _)) _ _ _); refine Hold.keep ?_))
local macro_rules | `(tactic| walk_at "CompSrc") => `(tactic| (refine Hold.keep ?_))
local macro_rules | `(tactic| walk_at "setItem ref int") => `(tactic| (refine Hold.keep ?_))
local macro_rules | `(tactic| walk_at "setItem ref int ref") => `(tactic| (refine Hold.keep ?_))
local macro_rules | `(tactic| walk_at "call ref") => `(tactic| ((with_reducible show wpAny _ _ (call (Value.ref _) _) _ _ _); refine Hold.keep ?_))
local macro_rules | `(tactic| walk_at "call type:list") => `(tactic| ((with_reducible show wpAny _ _ (call (Value.type "list") [Value.ref _]) _ _ _); refine Hold.keep ?_))
local macro_rules | `(tactic| walk_at "binaryOp Add ref ref") => `(tactic| (refine Hold.keep ?_))
local macro_rules | `(tactic| walk_at "compareOp NotEq ref ref") => `(tactic| ((with_reducible show wpAny _ _ (compareOp CmpOp.NotEq (Value.ref _) (Value.ref _)) _ _ _); refine Hold.keep ?_))
local macro_rules | `(tactic| walk_at "compareOp Eq ref ref") => `(tactic| ((with_reducible show wpAny _ _ (compareOp CmpOp.Eq (Value.ref _) (Value.ref _)) _ _ _); refine Hold.keep ?_))
local macro_rules | `(tactic| walk_at "compareOp In") => `(tactic| ((with_reducible show wpAny _ _ (compareOp CmpOp.In (Value.ref _) (Value.ref _)) _ _ _); refine Hold.keep ?_))
local macro_rules | `(tactic| walk_at "exec If") => `(tactic| (refine Hold.keep ?_))
local macro_rules | `(tactic| walk_at "storeName") => `(tactic| ((with_reducible show wpAny _ _ (storeName _ (PySem.Str.ofString "row") _) _ _ _); refine Hold.keep ?_))
theorem turn_walk {w : World} {h₀ : Heap} {L fa : Addr} {cw : Value} {mean : ExcName → Option Value} {mg mb m : Str → Option Value} {s : Shared} {E : Value → Shared → Prop} {Q : Flow → Shared → Prop} {i : Nat} {num : Int} {tn : Tok} {aS aM : Addr} {c : LSt} {T : List (Addr × Obj)}
   (K0 : Below callerA h₀ [] h₀) (KX : (Mine.hd.heap_39 w.params).In h₀) (TB : Top Mine.hd.view_39 (looseW Mine.hd.view_39 []) mean mg mb h₀)
   (F : Fr h₀ L s.heap m) (hnum : m (Str.ofString "number") = some (.int num tn)) (hS : m (Str.ofString "sets") = some (.ref aS)) (hM : m (Str.ofString "models") = some (.ref aM))
   (N : News h₀ L s.heap (ledL w (L + 1) aS aM c ++ T)) (hi : i < 20) (hoff : OwnOff T (mutL (L + 1) aS aM c)) (hI : InvL (L + 1) aS aM i c T)
   (hE : ∀ e, PassesOwnAt (model PySem.Challenge.rw_ad6014_01.row.prog w) ((callerA.deeper (lawEnv L fa cw)).mark (some (.ref e))) (callerA.deeper (lawEnv L fa cw)) (lawEnv L fa cw) E)
   (hret : ∀ h' tk m' c' T', Fr h₀ L h' m' → News h₀ L h' (ledL w (L + 1) aS aM c' ++ T') → (∀ p ∈ T, p ∈ T') → OwnOff T' (mutL (L + 1) aS aM c') → InvL (L + 1) aS aM (i + 1) c' T' → (∀ z, z ≠ Str.ofString "number" → storedL.contains z = false → m' z = m z) → Q .next { s with heap := h', gens := (s.gens.push .finished).push .finished, toks := tk }) :
   wpAny (model PySem.Challenge.rw_ad6014_01.row.prog w) (callerA.deeper (lawEnv L fa cw)) (execs turnS (lawEnv L fa cw)) Q E s := by
  obtain ⟨k, hkv⟩ : ∃ k, k = (num.fdiv 6).fmod 2 := ⟨_, rfl⟩
  have hk : k = 0 ∨ k = 1 := by
    have := Int.fmod_eq_emod_of_nonneg (num.fdiv 6) (by decide : (0:Int) ≤ 2)
    omega
  have N0 := ledK.of hk N
  have hI0 : InvL (L + 1) aS aM i (c.sel k) T := hI.sel
  have hoff0 : OwnOff T (mutL (L + 1) aS aM (c.sel k)) := mutL.sel hoff
  have F0 := Fr.pin (Fr.pin (Fr.pin F hM) ((if_neg (by decide)).trans hS)) ((if_neg (by decide)).trans ((if_neg (by decide)).trans hnum))
  clear N hI hoff F
  have hE2 := hE
  have hret2 := hret
  clear hret
  generalize c.sel k = c at N0 hI0 hoff0
  obtain ⟨sc, hsc⟩ : ∃ sc, lawSc = sc := ⟨_, rfl⟩
  have hsc2 := hsc
  conv at hsc2 => lhs; whnf
  unfold lawEnv
  rw [hsc]
  clear hsc
  subst hsc2
  conv in (turnS) => whnf
  revert KX; k_fill; intro KX
  obtain ⟨oc, cS, cM, x0, d0, E0, M0, t0, n0, cu0, c0, us0, ms0, R0, x1, d1, E1, M1, t1, n1, cu1, c1, us1, ms1, R1⟩ := c
  simp only [ledK, List.cons_append, List.nil_append] at N0
  k_steps
  refine Hold.out ?_
  rename Fr _ _ _ _ => Fu
  rename News _ _ _ _ => Nu
  rw [← hkv] at Fu ⊢
  refine item2 Nu (.tail _ (.head _)) (by omega) (by omega) (pr2_at hk _ _) ?_
  k_steps
  refine Hold.out ?_
  rename Fr _ _ _ _ => Fv
  rename News _ _ _ _ => Nv
  refine row_call K0 Fv KX Nv TB rfl (by show callerA.depth + 1 + 10 < recursionLimit; simp only [depth_caller]; decide +kernel) (by decide +kernel) fun aR usR cR hR0 tkR Fw Nw hfrR hrR => ?_
  k_steps
  refine Hold.out ?_
  obtain ⟨cv, hcv⟩ := hI0.cell
  have Nw2 : News _ _ _ ((L + 1, oc) :: (aR, { cls := .type "tuple", data := .seq (List.toArray usR) cR }) :: (aS, listOf (List.toArray (pr2 k (.ref x0) (.ref x1))) cS) :: (aM, listOf (List.toArray (pr2 k (.ref M0) (.ref M1))) cM) :: (x0, instObj 92 d0) :: (d0, itemsD w E0 t0 n0) :: (E0, listOf (List.toArray us0) cu0) :: (M0, listOf (List.toArray ms0) c0) :: (x1, instObj 92 d1) :: (d1, itemsD w E1 t1 n1) :: (E1, listOf (List.toArray us1) cu1) :: (M1, listOf (List.toArray ms1) c1) :: T) := pick [1, 0, 2, 3, 4, 5, 6, 7, 8, 9, 10, 11] 12 Nw
  refine storeX_C Fw Nw2 rfl (UpdF.head (List.forall_mem_cons.mpr ⟨Nat.ne_of_gt (hfrR _ (.head _)), offC2 hI0 hoff0⟩)) hcv fun hC oc5 Fx5 Nx5 hoc5 => ?_
  clear Fw Nw Nw2
  k_steps
  refine Hold.out ?_
  refine row_call K0 Fx5 KX Nx5 TB rfl (by show callerA.depth + 1 + 10 < recursionLimit; simp only [depth_caller]; decide +kernel) (by decide +kernel) fun aO usO cO hO0 tkO Fo No hfrO hrO => ?_
  k_steps
  refine Hold.out ?_
  rename Fr _ _ _ _ => Fi
  rename News _ _ _ _ => Ni
  dsimp only at Fi
  obtain ⟨mI, tw, tk, FI, hsets, hmodels, hwhich, hone, hother, hkind, hsame⟩ : ∃ mI tw tk, Fr h₀ L _ mI ∧ mI (Str.ofString "sets") = some (.ref aS) ∧ mI (Str.ofString "models") = some (.ref aM) ∧ mI (Str.ofString "which") = some (.int k tw) ∧ mI (Str.ofString "one") = some (.ref x0) ∧ mI (Str.ofString "other") = some (.ref aO) ∧ mI (Str.ofString "kind") = some (.int (num.fmod 6) tk) ∧ (∀ z, z ≠ Str.ofString "number" → storedL.contains z = false → mI z = m z) := by
    refine ⟨_, _, _, Fi, rfl, rfl, rfl, rfl, rfl, rfl, fun z hz1 hz2 => ?_⟩
    have n1 : z ≠ Str.ofString "other" := stored_ne hz2 (by decide)
    have n2 : z ≠ Str.ofString "one" := stored_ne hz2 (by decide)
    have n3 : z ≠ Str.ofString "which" := stored_ne hz2 (by decide)
    have n4 : z ≠ Str.ofString "kind" := stored_ne hz2 (by decide)
    simp only [if_neg n1, if_neg n2, if_neg n3, if_neg n4, if_neg hz1]
    by_cases h1 : z = Str.ofString "sets"
    · rw [if_pos h1, h1, hS]
    · rw [if_neg h1]
      by_cases h2 : z = Str.ofString "models"
      · rw [if_pos h2, h2, hM]
      · rw [if_neg h2]
  clear Fi
  have N1 : News _ _ _ ((L + 1, oc5) :: (aS, listOf (List.toArray (pr2 k (.ref x0) (.ref x1))) cS) :: (aM, listOf (List.toArray (pr2 k (.ref M0) (.ref M1))) cM) :: (x0, instObj 92 d0) :: (d0, itemsD w E0 t0 n0) :: (E0, listOf (List.toArray us0) cu0) :: (M0, listOf (List.toArray ms0) c0) :: (x1, instObj 92 d1) :: (d1, itemsD w E1 t1 n1) :: (E1, listOf (List.toArray us1) cu1) :: (M1, listOf (List.toArray ms1) c1) :: (aO, { cls := .type "tuple", data := .seq (List.toArray usO) cO }) :: (aR, { cls := .type "tuple", data := .seq (List.toArray usR) cR }) :: T) := pick [1, 3, 4, 5, 6, 7, 8, 9, 10, 11, 12, 0, 2] 13 Ni
  have hR1 : RowIn ((aO, { cls := .type "tuple", data := .seq (List.toArray usO) cO }) :: (aR, { cls := .type "tuple", data := .seq (List.toArray usR) cR }) :: T) (.ref aR) (rowOf (num.fdiv 12)) := ⟨aR, usR, cR, rfl, .tail _ (.head _), hrR⟩
  have hO1 : RowIn ((aO, { cls := .type "tuple", data := .seq (List.toArray usO) cO }) :: (aR, { cls := .type "tuple", data := .seq (List.toArray usR) cR }) :: T) (.ref aO) (rowOf ((num.fdiv 12).fdiv 4096)) := ⟨aO, usO, cO, rfl, .head _, hrO⟩
  have hI1 : InvL (L + 1) aS aM i ⟨oc5, cS, cM, x0, d0, E0, M0, t0, n0, cu0, c0, us0, ms0, R0, x1, d1, E1, M1, t1, n1, cu1, c1, us1, ms1, R1⟩ ((aO, { cls := .type "tuple", data := .seq (List.toArray usO) cO }) :: (aR, { cls := .type "tuple", data := .seq (List.toArray usR) cR }) :: T) := { (hI0.grow sub2) with cell := ⟨_, hoc5⟩ }
  have hoff1 : OwnOff ((aO, { cls := .type "tuple", data := .seq (List.toArray usO) cO }) :: (aR, { cls := .type "tuple", data := .seq (List.toArray usR) cR }) :: T) (mutL (L + 1) aS aM ⟨oc5, cS, cM, x0, d0, E0, M0, t0, n0, cu0, c0, us0, ms0, R0, x1, d1, E1, M1, t1, n1, cu1, c1, us1, ms1, R1⟩) := by
    have hltO := lt_map hfrO
    have hltR := lt_map hfrR
    simp only [List.map_cons, List.mem_cons, forall_eq_or_imp] at hltO hltR
    obtain ⟨o1, o0, o2, o3, o4, o5, o6, o7, o8, o9, o10, o11, _⟩ := hltO
    obtain ⟨r1, r2, r3, r4, r5, r6, r7, r8, r9, r10, r11, _⟩ := hltR
    intro p hp z hz
    rcases List.mem_cons.mp hp with hp | hp
    · subst hp
      simp only [mutL, List.mem_cons, List.not_mem_nil, or_false] at hz
      rcases hz with h | h | h | h | h | h | h <;> (subst h; refine Nat.ne_of_gt ?_; assumption)
    · rcases List.mem_cons.mp hp with hp | hp
      · subst hp
        simp only [mutL, List.mem_cons, List.not_mem_nil, or_false] at hz
        rcases hz with h | h | h | h | h | h | h <;> (subst h; refine Nat.ne_of_gt ?_; assumption)
      · exact hoff0 p hp z hz
  have p1 := pin_on (m := mI) rfl hsets
  have p2 := pin_on p1 hmodels
  have p3 := pin_on p2 hwhich
  have p4 := pin_on p3 hone
  have p5 : (fun z => if z = Str.ofString "other" then some (.ref aO) else if z = Str.ofString "one" then some (.ref x0) else if z = Str.ofString "which" then some (.int k tw) else if z = Str.ofString "models" then some (.ref aM) else if z = Str.ofString "sets" then some (.ref aS) else mI z) = mI := pin_on p4 hother
  have FK := Fr.cast p5 FI
  have fin : ∀ h' tk m' c' T', Fr h₀ L h' m' → News h₀ L h' (ledL w (L + 1) aS aM c' ++ T') → (∀ p ∈ (aO, { cls := .type "tuple", data := .seq (List.toArray usO) cO }) :: (aR, { cls := .type "tuple", data := .seq (List.toArray usR) cR }) :: T, p ∈ T') → OwnOff T' (mutL (L + 1) aS aM c') → InvL (L + 1) aS aM (i + 1) c' T' → (∀ z, z ≠ Str.ofString "number" → storedL.contains z = false → m' z = (fun z => if z = Str.ofString "other" then some (.ref aO) else if z = Str.ofString "one" then some (.ref x0) else if z = Str.ofString "which" then some (.int k tw) else if z = Str.ofString "models" then some (.ref aM) else if z = Str.ofString "sets" then some (.ref aS) else mI z) z) →
      wpAny (model PySem.Challenge.rw_ad6014_01.row.prog w) (callerA.deeper (lawEnv L fa cw)) (execs endS (lawEnv L fa cw)) Q E { s with heap := h', toks := tk } := by
    intro h' tk m' c' T' F' N' hsub ho' hI' hm'
    have e1 : m' (Str.ofString "models") = some (.ref aM) := (hm' _ (by decide) (by decide)).trans ((congrFun p5 _).trans hmodels)
    have e2 : m' (Str.ofString "sets") = some (.ref aS) := (hm' _ (by decide) (by decide)).trans ((congrFun p5 _).trans hsets)
    have g1 := pin_on (m := m') rfl e2
    have g2 : (fun z => if z = Str.ofString "models" then some (.ref aM) else if z = Str.ofString "sets" then some (.ref aS) else m' z) = m' := pin_on g1 e1
    have F2 := Fr.cast g2 F'
    refine end_turn K0 KX TB F2 N' (by omega) hI' fun h2 tk2 F3 N3 => ?_
    rw [g2] at F3
    exact hret2 h2 tk2 m' c' T' F3 N3 (fun p hp => hsub p (sub2 p hp)) ho' hI' (fun z a b => (hm' z a b).trans ((congrFun p5 z).trans (hsame z a b)))
  clear Ni
  refine step_if FI hkind (fun _ tk => ?_) (fun _ tk => one_exec ?_)
  · exact kind0 K0 KX TB FK N1 hk hi hoff1 hI1 hoc5 hR1 hO1 fun h' tk m' c' T' F' N' hs' ho' hI' hm' => fin h' tk m' (c'.sel k) T' F' (ledK.to hk N') hs' (mutL.sel ho') hI'.sel hm'
  refine step_if FI hkind (fun _ tk => ?_) (fun _ tk => one_exec ?_)
  · exact kind1 K0 KX TB FK N1 hk hi hoff1 hI1 hoc5 hR1 hO1 hE2 fun h' tk m' c' T' F' N' hs' ho' hI' hm' => fin h' tk m' (c'.sel k) T' F' (ledK.to hk N') hs' (mutL.sel ho') hI'.sel hm'
  refine step_if FI hkind (fun _ tk => ?_) (fun _ tk => one_exec ?_)
  · exact kind2 K0 KX TB FK N1 hk hi hoff1 hI1 hoc5 hR1 hO1 fun h' tk m' c' T' F' N' hs' ho' hI' hm' => fin h' tk m' (c'.sel k) T' F' (ledK.to hk N') hs' (mutL.sel ho') hI'.sel hm'
  refine step_if FI hkind (fun _ tk => ?_) (fun _ tk => one_exec ?_)
  · exact kind3 K0 KX TB FK N1 hk hi hoff1 hI1 hoc5 hR1 hO1 fun h' tk m' c' T' F' N' hs' ho' hI' hm' => fin h' tk m' (c'.sel k) T' F' (ledK.to hk N') hs' (mutL.sel ho') hI'.sel hm'
  refine step_if FI hkind (fun _ tk => ?_) (fun _ tk => ?_)
  · exact kind4 K0 KX TB FK N1 hk hi hoff1 hI1 hoc5 hR1 hO1 fun h' tk m' c' T' F' N' hs' ho' hI' hm' => fin h' tk m' (c'.sel k) T' F' (ledK.to hk N') hs' (mutL.sel ho') hI'.sel hm'
  exact kind5 K0 KX TB FK (ledK.to hk N1) hk hi (mutL.sel hoff1) hI1.sel (by unfold LSt.sel; split <;> exact hoc5) hR1 hO1 fun h' tk m' c' T' F' N' hs' ho' hI' hm' => fin h' tk m' c' T' F' N' hs' ho' hI' hm'
end Mine
end
/-! part KS -/
section
open PySem PySem.W PyProof.Rows PySem.Spec PySem.Calls
set_option maxRecDepth 100000
set_option maxHeartbeats 8000000
set_option hygiene false
namespace Mine
local macro_rules | `(tactic| walk_at "eval ListComp") => `(tactic| ((with_reducible show wpAny _ _ (eval (Expr.ListComp _ _ _ _) _) _ _ _); refine Hold.keep ?_))
local macro_rules | `(tactic| walk_at "subscriptTail") => `(tactic| ((with_reducible show wpAny _ _ (subscriptTail _ _ (Value.ref _) (Value.int _ _)) _ _ _); refine Hold.keep ?_))
local macro_rules | `(tactic| walk_at "subscriptTail Name") => `(tactic| ((with_reducible show wpAny _ _ (subscriptTail _ _ (Value.ref _) (Value.int _ _)) _ _ _); refine Hold.keep ?_))
local macro_rules | `(tactic| walk_at "CompSrc") => `(tactic| (refine Hold.keep ?_))
local macro_rules | `(tactic| walk_at "setItem ref int") => `(tactic| (refine Hold.keep ?_))
local macro_rules | `(tactic| walk_at "setItem ref int ref") => `(tactic| (refine Hold.keep ?_))
local macro_rules | `(tactic| walk_at "call ref") => `(tactic| ((with_reducible show wpAny _ _ (call (Value.ref _) _) _ _ _); refine Hold.keep ?_))
local macro_rules | `(tactic| walk_at "call type:list") => `(tactic| ((with_reducible show wpAny _ _ (call (Value.type "list") [Value.ref _]) _ _ _); refine Hold.keep ?_))
local macro_rules | `(tactic| walk_at "binaryOp Add ref ref") => `(tactic| (refine Hold.keep ?_))
local macro_rules | `(tactic| walk_at "compareOp NotEq ref ref") => `(tactic| ((with_reducible show wpAny _ _ (compareOp CmpOp.NotEq (Value.ref _) (Value.ref _)) _ _ _); refine Hold.keep ?_))
local macro_rules | `(tactic| walk_at "compareOp Eq ref ref") => `(tactic| ((with_reducible show wpAny _ _ (compareOp CmpOp.Eq (Value.ref _) (Value.ref _)) _ _ _); refine Hold.keep ?_))
local macro_rules | `(tactic| walk_at "compareOp In") => `(tactic| ((with_reducible show wpAny _ _ (compareOp CmpOp.In (Value.ref _) (Value.ref _)) _ _ _); refine Hold.keep ?_))
theorem suffix {w : World} {h₀ : Heap} {L fa : Addr} {cw : Value} {mean : ExcName → Option Value} {mg mb u : Str → Option Value} {s : Shared} {E : Value → Shared → Prop} {Q : Flow → Shared → Prop} {i : Nat} {aS aM : Addr} {c : LSt} {T : List (Addr × Obj)}
   (K0 : Below callerA h₀ [] h₀) (KX : (Mine.hd.heap_39 w.params).In h₀) (TB : Top Mine.hd.view_39 (looseW Mine.hd.view_39 []) mean mg mb h₀)
   (F : Fr h₀ L s.heap (fun z => if z = Str.ofString "models" then some (.ref aM) else if z = Str.ofString "sets" then some (.ref aS) else u z)) (N : News h₀ L s.heap (ledL w (L + 1) aS aM c ++ T)) (hi : i ≤ 20) (hI : InvL (L + 1) aS aM i c T)
   (hret : ∀ h' tk m', Fr h₀ L h' m' → Q (.ret (.bool true)) { s with heap := h', toks := tk }) :
   wpAny (model PySem.Challenge.rw_ad6014_01.row.prog w) (callerA.deeper (lawEnv L fa cw)) (execs lastS (lawEnv L fa cw)) Q E s := by
  revert KX; k_fill; intro KX
  obtain ⟨sc, hsc⟩ : ∃ sc, lawSc = sc := ⟨_, rfl⟩
  have hsc2 := hsc
  conv at hsc2 => lhs; whnf
  unfold lawEnv
  rw [hsc]
  clear hsc
  subst hsc2
  conv in (lastS) => whnf
  obtain ⟨oc, cS, cM, x0, d0, E0, M0, t0, n0, cu0, c0, us0, ms0, R0, x1, d1, E1, M1, t1, n1, cu1, c1, us1, ms1, R1⟩ := c
  simp only [ledL, List.cons_append, List.nil_append] at N F
  have hu0 : F2 (RowIn T) us0 R0 := hI.us0
  have hm0 : F2 (RowIn T) ms0 R0 := hI.ms0
  have hu1 : F2 (RowIn T) us1 R1 := hI.us1
  have hm1 : F2 (RowIn T) ms1 R1 := hI.ms1
  have hl0 : R0.length < 60 := by have := hI.le0; dsimp only at this; omega
  have hl1 : R1.length < 60 := by have := hI.le1; dsimp only at this; omega
  k_steps
  refine Hold.out ?_
  refine kim_list N (.tail _ (.head _)) rfl rfl (by decide) (by decide) (x := .ref x0) rfl ?_
  k_steps
  refine Hold.out ?_
  rename Fr _ _ _ _ => Fa
  rename News _ _ _ _ => Na
  rename_i Z hz1 hz2
  have N1 : News _ _ _ ((x0, instObj 92 d0) :: (d0, itemsD w E0 t0 n0) :: (E0, listOf (List.toArray us0) cu0) :: (Z, { cls := .type "tuple", data := .seq #[] }) :: (L + 1, oc) :: (aS, listOf (List.toArray [.ref x0, .ref x1]) cS) :: (aM, listOf (List.toArray [.ref M0, .ref M1]) cM) :: (M0, listOf (List.toArray ms0) c0) :: (x1, instObj 92 d1) :: (d1, itemsD w E1 t1 n1) :: (E1, listOf (List.toArray us1) cu1) :: (M1, listOf (List.toArray ms1) c1) :: T) := pick [4, 5, 6, 0, 1, 2, 3, 7, 8, 9, 10, 11] 12 Na
  refine bis_call K0 Fa KX N1 TB rfl (by show callerA.depth + 1 + 10 < recursionLimit; simp only [depth_caller]; decide +kernel) (by decide +kernel) (F2.rows sub9 hu0) hl0 (r := []) ⟨Z, [], 0, rfl, .head _, .nil⟩ fun h1 tk1 tv1 Fb Nb => ?_
  clear Na N1
  have N2 : News _ _ _ ((L + 1, oc) :: (aS, listOf (List.toArray [.ref x0, .ref x1]) cS) :: (aM, listOf (List.toArray [.ref M0, .ref M1]) cM) :: (x0, instObj 92 d0) :: (d0, itemsD w E0 t0 n0) :: (E0, listOf (List.toArray us0) cu0) :: (M0, listOf (List.toArray ms0) c0) :: (x1, instObj 92 d1) :: (d1, itemsD w E1 t1 n1) :: (E1, listOf (List.toArray us1) cu1) :: (M1, listOf (List.toArray ms1) c1) :: T) := pick [4, 5, 6, 0, 1, 2, 7, 8, 9, 10, 11] 12 Nb
  clear Nb
  k_steps
  refine Hold.out ?_
  rename Fr _ _ _ _ => Fc
  rename News _ _ _ _ => Nc
  refine kim_list Nc (.tail _ (.tail _ (.head _))) rfl rfl (by decide) (by decide) (x := .ref M0) rfl ?_
  k_steps
  refine Hold.out ?_
  rename Fr _ _ _ _ => Fd
  rename News _ _ _ _ => Nd
  refine count_call K0 Fd KX Nd TB rfl (by show callerA.depth + 1 + 10 < recursionLimit; simp only [depth_caller]; decide +kernel) (by decide +kernel) (vs := ms0) (c := c0) (by k_mem) (F2.rows sub12 hm0) hl0 (r := []) ⟨_, [], 0, rfl, .head _, .nil⟩ (hI.st0.imp fun h => List.le_of_lt h) fun h2 tk2 tv2 Fe Ne => ?_
  clear Fd Nd
  have N4 : News _ _ _ ((L + 1, oc) :: (aS, listOf (List.toArray [.ref x0, .ref x1]) cS) :: (aM, listOf (List.toArray [.ref M0, .ref M1]) cM) :: (x0, instObj 92 d0) :: (d0, itemsD w E0 t0 n0) :: (E0, listOf (List.toArray us0) cu0) :: (M0, listOf (List.toArray ms0) c0) :: (x1, instObj 92 d1) :: (d1, itemsD w E1 t1 n1) :: (E1, listOf (List.toArray us1) cu1) :: (M1, listOf (List.toArray ms1) c1) :: T) := pick [1, 2, 3, 4, 5, 6, 7, 8, 9, 10, 11] 12 Ne
  clear Ne
  k_steps
  refine Hold.out ?_
  refine kim_list N4 (.tail _ (.head _)) rfl rfl (by decide) (by decide) (x := .ref x0) rfl ?_
  k_steps
  refine Hold.out ?_
  refine kim_list N4 (.tail _ (.head _)) rfl rfl (by decide) (by decide) (x := .ref x1) rfl ?_
  k_steps
  refine Hold.out ?_
  have N5 : News _ _ _ ((x0, instObj 92 d0) :: (d0, itemsD w E0 t0 n0) :: (E0, listOf (List.toArray us0) cu0) :: (x1, instObj 92 d1) :: (d1, itemsD w E1 t1 n1) :: (E1, listOf (List.toArray us1) cu1) :: (L + 1, oc) :: (aS, listOf (List.toArray [.ref x0, .ref x1]) cS) :: (aM, listOf (List.toArray [.ref M0, .ref M1]) cM) :: (M0, listOf (List.toArray ms0) c0) :: (M1, listOf (List.toArray ms1) c1) :: T) := pick [3, 4, 5, 7, 8, 9, 0, 1, 2, 6, 10] 11 N4
  refine eq_call K0 Fe KX N5 TB rfl (by show callerA.depth + 1 + 10 < recursionLimit; simp only [depth_caller]; decide +kernel) (by decide +kernel) (F2.rows sub5 hu0) (F2.rows sub5 hu1) fun h3 tk3 Ff Nf => ?_
  clear N4 N5
  have N6 : News _ _ _ ((L + 1, oc) :: (aS, listOf (List.toArray [.ref x0, .ref x1]) cS) :: (aM, listOf (List.toArray [.ref M0, .ref M1]) cM) :: (x0, instObj 92 d0) :: (d0, itemsD w E0 t0 n0) :: (E0, listOf (List.toArray us0) cu0) :: (M0, listOf (List.toArray ms0) c0) :: (x1, instObj 92 d1) :: (d1, itemsD w E1 t1 n1) :: (E1, listOf (List.toArray us1) cu1) :: (M1, listOf (List.toArray ms1) c1) :: T) := pick [6, 7, 8, 0, 1, 2, 9, 3, 4, 5, 10] 11 Nf
  clear Nf
  k_steps
  refine Hold.out ?_
  refine kim_list N6 (.tail _ (.tail _ (.head _))) rfl rfl (by decide) (by decide) (x := .ref M0) rfl ?_
  k_steps
  refine Hold.out ?_
  refine kim_list N6 (.tail _ (.tail _ (.head _))) rfl rfl (by decide) (by decide) (x := .ref M1) rfl ?_
  k_steps
  refine Hold.out ?_
  refine eq_listsN N6 (by k_mem) (by k_mem) (F2.rows sub11 hm0) (F2.rows sub11 hm1) (by show (Around.deeper _ _).units + 64 < cLine; simp only [Around.deeper_units]; decide +kernel) ?_
  k_steps
  have hb : (decide (R0 = R1) == decide (R0 = R1)) = true := by simp
  rw [hb]
  exact hret _ _ _ Ff
  rename _ ≠ _ => hb
  exact absurd rfl hb
end Mine
end
/-! part Law1 -/
section
open PySem PySem.W PyProof.Rows PySem.Spec PySem.Calls
set_option maxRecDepth 100000
set_option maxHeartbeats 8000000
set_option hygiene false
open Mine
local macro_rules | `(tactic| walk_at "eval ListComp") => `(tactic| ((with_reducible show wpAny _ _ (eval (Expr.ListComp _ _ _ _) _) _ _ _); refine Hold.keep ?_))
local macro_rules | `(tactic| walk_at "exec Assign cons ListComp") => `(tactic| (refine Hold.keep ?_))
local macro_rules | `(tactic| walk_at "exec For Name Subscript cons nil") => `(tactic| (refine Hold.keep ?_))
local macro_rules | `(tactic| walk_at "subscriptTail") => `(tactic| ((with_reducible show wpAny _ _ (subscriptTail _ _ (Value.ref _) (Value.int _ _)) _ _ _); refine Hold.keep ?_))
local macro_rules | `(tactic| walk_at "subscriptTail Name") => `(tactic| ((with_reducible show wpAny _ _ (subscriptTail _ _ (Value.ref _) (Value.int _ _)) _ _ _); refine Hold.keep ?_))
local macro_rules | `(tactic| walk_at "storeName") => `(tactic| ((with_reducible show wpAny _ _ (storeName _ (PySem.Str.ofString "row") _) _ _ _); refine Hold.keep ?_))
local macro_rules | `(tactic| walk_at "exec If") => `(tactic| (refine Hold.keep ?_))
local macro_rules | `(tactic| walk_at "CompSrc") => `(tactic| (refine Hold.keep ?_))
local macro_rules | `(tactic| walk_at "call ref") => `(tactic| ((with_reducible show wpAny _ _ (call (Value.ref _) _) _ _ _); refine Hold.keep ?_))
local macro_rules | `(tactic| walk_at "compareOp NotEq ref ref") => `(tactic| ((with_reducible show wpAny _ _ (compareOp CmpOp.NotEq (Value.ref _) (Value.ref _)) _ _ _); refine Hold.keep ?_))
local macro_rules | `(tactic| walk_at "compareOp Eq ref ref") => `(tactic| ((with_reducible show wpAny _ _ (compareOp CmpOp.Eq (Value.ref _) (Value.ref _)) _ _ _); refine Hold.keep ?_))
local macro_rules | `(tactic| walk_at "compareOp In") => `(tactic| ((with_reducible show wpAny _ _ (compareOp CmpOp.In (Value.ref _) (Value.ref _)) _ _ _); refine Hold.keep ?_))
theorem Mine.t : PySem.Challenge.rw_ad6014_01.Holds := Mine.hd (by
  k_fill
  intro w s₀ s₁ mg mb G Y fa o pm cd doc dV kV ho hd hcd hD hmg hg args vals as hpre hlay hrd hwl hlo
  have KX := kIn_of Y
  have X := (Ground.X G).1
  have V := (Ground.X G).2
  try w_nolog (first | (have GL := glob_more (Ground.glob G (by first | k_qdec | decide +kernel) (by first | k_qdec | decide +kernel)) V) | (have GL := glob_more (Ground.glob G (by decide +kernel)) V))
  refine Ground.open G ?_
  intro T B D TE TW
  try (refine guard_noD D (by decide +kernel) ?_; clear D)
  obtain ⟨_, _, M⟩ := bmod_of_top T
  have TA := at_of_top T
  try (obtain ⟨_, _, he, B0⟩ := based_of_top T rfl hmg ho hd; have he' : cd = _ := he; subst he'; clear he; have B1 := Mine.Hold.out B0)
  clear hmg
  wrow_args hpre hlay hrd hwl hlo
  all_goals (
    first | refine callC_kw (enter_call ?_) | refine enter_call ?_ | refine callC_kw (enter_callW ?_) | refine enter_callW ?_ | w_how
    w_top on
    have K0 := below_caller (Top.heap T)
    w_call any ho hd hcd hD T F
    clear hd TA
    k_drop
    skip)
  all_goals try k_fold
  rename IntsAre _ _ => hI
  rename List Int => ns
  rename Obj => oc
  obtain ⟨ks, hks⟩ : ∃ ks, ks = List.take (min 4 ns.length - 1) (List.drop 1 ns) := ⟨_, rfl⟩
  have hks3 : ks.length ≤ 3 := by
    rw [hks]
    refine Nat.le_trans (List.length_take_le _ _) ?_
    omega
  obtain ⟨js, hjs⟩ : ∃ js, js = List.take 1 ns := ⟨_, rfl⟩
  have hjs3 : js.length ≤ 3 := by
    rw [hjs]
    refine Nat.le_trans (List.length_take_le _ _) ?_
    omega
  k_steps
  refine Hold.out ?_
  refine LCg.ListComp_U (F₀ := by k_asm) (by with_unfolding_all rfl) (by decide) (by rfl) (by decide) (by rfl) ?_
  k_steps
  refine Hold.out ?_
  rename Fr _ _ _ _ => Fa1
  rename News _ _ _ _ => Na1
  rename IntsAre _ _ => hIa1

  rw [← hks] at hIa1
  have hla1 := hIa1.length
  refine LCg.CompSrc.ledger rfl Fa1 Na1 (by k_mem) (by rw [List.size_toArray, sizeLine_eq]; omega) fun g => ?_
  refine compU_rows hIa1 (fun nw hn => .inr ⟨_, hn _ (.head _), rfl, _, rfl⟩) ?_ ?_
  · intro n t I oI C oC D m₂ h tk E' Q ys nw hC hx Fb Nb hk
    k_steps
    refine Hold.out ?_
    rename Fr _ _ _ _ => Fc
    rename News _ _ _ _ => Nc
    exact row_call K0 Fc KX Nc T rfl (by show callerA.depth + 1 + 10 < recursionLimit; simp only [depth_caller]; decide +kernel) (by decide +kernel) hk
  intro ys1 add1 hadd1 hy1 D1 h1 tk1 Fd1 Nd1 off1
  clear Fa1 Na1 hIa1 off1
  have hly1 := hy1.length
  rw [List.length_map] at hly1
  k_steps
  refine Hold.out ?_
  rename Fr _ _ _ _ => Fe1
  have Ne1 : News _ _ h1 ((D1, LCg.lst ys1) :: (s₁.heap.objs.size + 1, oc) :: add1) := fun p hp => Nd1 p (by
    simp only [List.mem_cons, List.mem_append] at hp ⊢
    rcases hp with h | h | h <;> simp [h])
  clear Nd1
  refine tidy_call K0 Fe1 KX Ne1 T rfl (by show callerA.depth + 1 + 10 < recursionLimit; simp only [depth_caller]; decide +kernel) (by decide +kernel) (R := add1) (fun p hp => by simp [hp]) (.head _) (by simpa using hy1) (by rw [List.length_map]; omega) fun M0 ms0 c0 R0 hh1 tkk1 Ff1 Nf1 hM0 hms0 hcan0 hlen0 => ?_
  clear Fe1 Ne1
  have Ng1 : News _ _ hh1 ((M0, listOf (List.toArray ms0) c0) :: (s₁.heap.objs.size + 1, oc) :: add1) := fun p hp => Nf1 p (by
    simp only [List.mem_cons, List.mem_append] at hp ⊢
    rcases hp with h | h | h <;> simp [h])
  clear Nf1
  have oM0 : @LT.lt Nat instLTNat (s₁.heap.objs.size + 1) (M0) := hM0 (s₁.heap.objs.size + 1, oc) (by simp)
  k_steps
  refine Hold.out ?_
  refine LCg.ListComp_U (F₀ := by k_asm) (by with_unfolding_all rfl) (by decide) (by rfl) (by decide) (by rfl) ?_
  k_steps
  refine Hold.out ?_
  rename Fr _ _ _ _ => Fa2
  rename News _ _ _ _ => Na2
  rename IntsAre _ _ => hIa2

  rw [← hjs] at hIa2
  have hla2 := hIa2.length
  refine LCg.CompSrc.ledger rfl Fa2 Na2 (by k_mem) (by rw [List.size_toArray, sizeLine_eq]; omega) fun g => ?_
  refine compU_rows hIa2 (fun nw hn => .inr ⟨_, hn _ (.head _), rfl, _, rfl⟩) ?_ ?_
  · intro n t I oI C oC D m₂ h tk E' Q ys nw hC hx Fb Nb hk
    k_steps
    refine Hold.out ?_
    rename Fr _ _ _ _ => Fc
    rename News _ _ _ _ => Nc
    exact row_call K0 Fc KX Nc T rfl (by show callerA.depth + 1 + 10 < recursionLimit; simp only [depth_caller]; decide +kernel) (by decide +kernel) hk
  intro ys2 add2 hadd2 hy2 D2 h2 tk2 Fd2 Nd2 off2
  clear Fa2 Na2 hIa2 off2
  have hly2 := hy2.length
  rw [List.length_map] at hly2
  k_steps
  refine Hold.out ?_
  rename Fr _ _ _ _ => Fe2
  have Ne2 : News _ _ h2 ((D2, LCg.lst ys2) :: (M0, listOf (List.toArray ms0) c0) :: (s₁.heap.objs.size + 1, oc) :: (add2 ++ add1)) := fun p hp => Nd2 p (by
    simp only [List.mem_cons, List.mem_append] at hp ⊢
    rcases hp with h | h | h | h | h <;> simp [h])
  clear Nd2
  refine tidy_call K0 Fe2 KX Ne2 T rfl (by show callerA.depth + 1 + 10 < recursionLimit; simp only [depth_caller]; decide +kernel) (by decide +kernel) (R := add2) (fun p hp => by simp [hp]) (.head _) (by simpa using hy2) (by rw [List.length_map]; omega) fun M1 ms1 c1 R1 hh2 tkk2 Ff2 Nf2 hM1 hms1 hcan1 hlen1 => ?_
  clear Fe2 Ne2
  have Ng2 : News _ _ hh2 ((M1, listOf (List.toArray ms1) c1) :: (M0, listOf (List.toArray ms0) c0) :: (s₁.heap.objs.size + 1, oc) :: (add2 ++ add1)) := fun p hp => Nf2 p (by
    simp only [List.mem_cons, List.mem_append] at hp ⊢
    rcases hp with h | h | h | h | h <;> simp [h])
  clear Nf2
  have oM1 : @LT.lt Nat instLTNat (M0) (M1) := hM1 (M0, listOf (List.toArray ms0) c0) (by simp)
  k_steps
  refine Hold.out ?_
  refine LCg.ListComp_U (F₀ := by k_asm) (by with_unfolding_all rfl) (by decide) (by rfl) (by decide) (by rfl) ?_
  k_steps
  refine Hold.out ?_
  rename Fr _ _ _ _ => Fa3
  rename News _ _ _ _ => Na3
  rename IntsAre _ _ => hIa3

  rw [← hks] at hIa3
  have hla3 := hIa3.length
  refine LCg.CompSrc.ledger rfl Fa3 Na3 (by k_mem) (by rw [List.size_toArray, sizeLine_eq]; omega) fun g => ?_
  refine compU_rows hIa3 (fun nw hn => .inr ⟨_, hn _ (.head _), rfl, _, rfl⟩) ?_ ?_
  · intro n t I oI C oC D m₂ h tk E' Q ys nw hC hx Fb Nb hk
    k_steps
    refine Hold.out ?_
    rename Fr _ _ _ _ => Fc
    rename News _ _ _ _ => Nc
    exact row_call K0 Fc KX Nc T rfl (by show callerA.depth + 1 + 10 < recursionLimit; simp only [depth_caller]; decide +kernel) (by decide +kernel) hk
  intro ys3 add3 hadd3 hy3 D3 h3 tk3 Fd3 Nd3 off3
  clear Fa3 Na3 hIa3 off3
  have hly3 := hy3.length
  rw [List.length_map] at hly3
  k_steps
  refine Hold.out ?_
  rename Fr _ _ _ _ => Fe3
  have Ne3 : News _ _ h3 ((D3, LCg.lst ys3) :: (M1, listOf (List.toArray ms1) c1) :: (M0, listOf (List.toArray ms0) c0) :: (s₁.heap.objs.size + 1, oc) :: (add3 ++ (add2 ++ add1))) := fun p hp => Nd3 p (by
    simp only [List.mem_cons, List.mem_append] at hp ⊢
    rcases hp with h | h | h | h | h | h | h <;> simp [h])
  clear Nd3
  refine make_call K0 Fe3 KX Ne3 T rfl (by show callerA.depth + 1 + 10 < recursionLimit; simp only [depth_caller]; decide +kernel) (by decide +kernel) (R := add3) (fun p hp => by simp [hp]) (.head _) hy3 (by rw [List.length_map]; omega) fun x0 d0 E0 us0 ts0 cu0 n0 t0 hh3 tkk3 Ff3 Nf3 hxE0 hdx0 hfr0 hus0 hcat0 hlet0 => ?_
  clear Fe3 Ne3
  have Ng3 : News _ _ hh3 ((E0, listOf (List.toArray us0) cu0) :: (x0, instObj 92 d0) :: (d0, itemsD w E0 t0 n0) :: (M1, listOf (List.toArray ms1) c1) :: (M0, listOf (List.toArray ms0) c0) :: (s₁.heap.objs.size + 1, oc) :: (add3 ++ (add2 ++ add1))) := fun p hp => Nf3 p (by
    simp only [List.mem_cons, List.mem_append] at hp ⊢
    rcases hp with h | h | h | h | h | h | h | h | h <;> simp [h])
  clear Nf3
  have od0 : @LT.lt Nat instLTNat (M1) (d0) := hfr0 (M1, listOf (List.toArray ms1) c1) (by simp)
  have ox0 : @LT.lt Nat instLTNat (d0) (x0) := hdx0
  have oE0 : @LT.lt Nat instLTNat (x0) (E0) := hxE0
  k_steps
  refine Hold.out ?_
  refine LCg.ListComp_U (F₀ := by k_asm) (by with_unfolding_all rfl) (by decide) (by rfl) (by decide) (by rfl) ?_
  k_steps
  refine Hold.out ?_
  rename Fr _ _ _ _ => Fa4
  rename News _ _ _ _ => Na4
  rename IntsAre _ _ => hIa4

  rw [← hjs] at hIa4
  have hla4 := hIa4.length
  refine LCg.CompSrc.ledger rfl Fa4 Na4 (by k_mem) (by rw [List.size_toArray, sizeLine_eq]; omega) fun g => ?_
  refine compU_rows hIa4 (fun nw hn => .inr ⟨_, hn _ (.head _), rfl, _, rfl⟩) ?_ ?_
  · intro n t I oI C oC D m₂ h tk E' Q ys nw hC hx Fb Nb hk
    k_steps
    refine Hold.out ?_
    rename Fr _ _ _ _ => Fc
    rename News _ _ _ _ => Nc
    exact row_call K0 Fc KX Nc T rfl (by show callerA.depth + 1 + 10 < recursionLimit; simp only [depth_caller]; decide +kernel) (by decide +kernel) hk
  intro ys4 add4 hadd4 hy4 D4 h4 tk4 Fd4 Nd4 off4
  clear Fa4 Na4 hIa4 off4
  have hly4 := hy4.length
  rw [List.length_map] at hly4
  k_steps
  refine Hold.out ?_
  rename Fr _ _ _ _ => Fe4
  have Ne4 : News _ _ h4 ((D4, LCg.lst ys4) :: (E0, listOf (List.toArray us0) cu0) :: (x0, instObj 92 d0) :: (d0, itemsD w E0 t0 n0) :: (M1, listOf (List.toArray ms1) c1) :: (M0, listOf (List.toArray ms0) c0) :: (s₁.heap.objs.size + 1, oc) :: (add4 ++ (add3 ++ (add2 ++ add1)))) := fun p hp => Nd4 p (by
    simp only [List.mem_cons, List.mem_append] at hp ⊢
    rcases hp with h | h | h | h | h | h | h | h | h | h | h <;> simp [h])
  clear Nd4
  refine make_call K0 Fe4 KX Ne4 T rfl (by show callerA.depth + 1 + 10 < recursionLimit; simp only [depth_caller]; decide +kernel) (by decide +kernel) (R := add4) (fun p hp => by simp [hp]) (.head _) hy4 (by rw [List.length_map]; omega) fun x1 d1 E1 us1 ts1 cu1 n1 t1 hh4 tkk4 Ff4 Nf4 hxE1 hdx1 hfr1 hus1 hcat1 hlet1 => ?_
  clear Fe4 Ne4
  have Ng4 : News _ _ hh4 ((E1, listOf (List.toArray us1) cu1) :: (x1, instObj 92 d1) :: (d1, itemsD w E1 t1 n1) :: (E0, listOf (List.toArray us0) cu0) :: (x0, instObj 92 d0) :: (d0, itemsD w E0 t0 n0) :: (M1, listOf (List.toArray ms1) c1) :: (M0, listOf (List.toArray ms0) c0) :: (s₁.heap.objs.size + 1, oc) :: (add4 ++ (add3 ++ (add2 ++ add1)))) := fun p hp => Nf4 p (by
    simp only [List.mem_cons, List.mem_append] at hp ⊢
    rcases hp with h | h | h | h | h | h | h | h | h | h | h | h | h <;> simp [h])
  clear Nf4
  have od1 : @LT.lt Nat instLTNat (E0) (d1) := hfr1 (E0, listOf (List.toArray us0) cu0) (by simp)
  have ox1 : @LT.lt Nat instLTNat (d1) (x1) := hdx1
  have oE1 : @LT.lt Nat instLTNat (x1) (E1) := hxE1
  k_steps
  refine Hold.out ?_
  refine wpAny_For ?_ (by intro _; rfl)
  k_steps
  rename Fr _ _ _ _ => Fz
  rename News _ _ _ _ => Nz
  rename IntsAre _ _ => hIz
  have hrow : ∀ p ∈ (add4 ++ (add3 ++ (add2 ++ add1))), p.2.cls = .type "tuple" ∧ ∃ xs c, p.2.data = .seq xs c := fun p hp => by
    simp only [List.mem_append] at hp
    rcases hp with h | h | h | h
    · exact hadd4 p h
    · exact hadd3 p h
    · exact hadd2 p h
    · exact hadd1 p h
  have e0 : ts0 = R0 := hcat0.uniq hcan0
  have e1 : ts1 = R1 := hcat1.uniq hcan1
  subst e0
  subst e1
  refine start_loop (R0 := ts0) (R1 := ts1) (ks := List.take (min 24 ns.length - 4) (List.drop 4 ns)) Fz Nz storedL hIz ?_ rfl (by rfl) (by rfl) (by passes_own) ?_ ?_ ?_ ?_ ?_
  · refine Nat.le_trans (List.length_take_le _ _) ?_
    omega
  · first | exact AllBare.of_eq hg | exact AllBare.of_eq (by assumption)
  · intro p hp
    rcases List.mem_cons.mp hp with rfl | hp
    · intro b hb
      simp only [List.mem_cons, List.not_mem_nil, or_false] at hb
      rcases hb with h | h | h | h | h | h | h <;> subst h <;> (refine Nat.ne_of_gt ?_; show @LT.lt Nat instLTNat _ _; omega)
    · refine off_rows Nz (fun q hq => ⟨?_, hrow q hq⟩) ?_ p hp
      · iterate 12 refine List.Mem.tail _ ?_
        exact hq
      · intro b hb
        simp only [List.mem_cons, List.not_mem_nil, or_false] at hb
        rcases hb with h | h | h | h | h | h | h <;> subst h
        · exact ⟨oc, by simp, .inr ⟨_, by assumption⟩⟩
        · exact ⟨_, .tail _ (.tail _ (.head _)), .inl (show Value.type "list" ≠ Value.type "tuple" by decide)⟩
        · exact ⟨_, .tail _ (.head _), .inl (show Value.type "list" ≠ Value.type "tuple" by decide)⟩
        · exact ⟨itemsD w E0 t0 n0, by simp, .inl (show Value.type "dict" ≠ Value.type "tuple" by decide)⟩
        · exact ⟨listOf (List.toArray us0) cu0, by simp, .inl (show Value.type "list" ≠ Value.type "tuple" by decide)⟩
        · exact ⟨itemsD w E1 t1 n1, by simp, .inl (show Value.type "dict" ≠ Value.type "tuple" by decide)⟩
        · exact ⟨listOf (List.toArray us1) cu1, by simp, .inl (show Value.type "list" ≠ Value.type "tuple" by decide)⟩
  · have q0 := hlen0
    have q1 := hlen1
    rw [List.length_map] at q0 q1
    exact { cell := ⟨_, by assumption⟩, nd := by simp only [adrL, List.nodup_cons, List.mem_cons, List.not_mem_nil, or_false, not_or, not_false_eq_true, List.nodup_nil, and_true]; omega,
            us0 := hus0.rows fun p hp => by simp [hp], ms0 := hms0.rows fun p hp => by simp [hp], us1 := hus1.rows fun p hp => by simp [hp], ms1 := hms1.rows fun p hp => by simp [hp],
            st0 := hcan0.1, st1 := hcan1.1, le0 := by show ts0.length ≤ 3 + 2 * 0; omega, le1 := by show ts1.length ≤ 3 + 2 * 0; omega, dx0 := ox0, xE0 := oE0, dx1 := ox1, xE1 := oE1 }
  · intro bS bM eS eM
    subst eS
    subst eM
    intro i num tn c u TT hh gg tkk hi20 hoffT hIv hgb Ft Nt
    refine turn_walk (L := s₁.heap.objs.size) K0 KX T Ft rfl rfl rfl Nt hi20 hoffT hIv (fun e => ?_) (fun h' tk m' c' T' F' N' hsub ho' hI' hm' => ?_)
    · with_unfolding_all passes_own
    · exact ⟨h', _, tk, m', c', T', rfl, (hgb.push rfl).push rfl, F', N', hsub, ho', fun z hz1 hz2 => (hm' z hz1 hz2).trans (by simp only [if_neg hz1, hz2]; rfl), hI'⟩
  · intro bS bM eS eM
    subst eS
    subst eM
    intro i c u TT hh gg tkk hi20 hoffT hIv hgb Ft Nt
    have Fp := Fr.pin (Fr.pin Ft (x := Str.ofString "sets") (v := .ref bS) rfl) (x := Str.ofString "models") (v := .ref bM) rfl
    refine suffix (L := s₁.heap.objs.size) K0 KX T Fp Nt hi20 hIv fun h2 tk2 m2 F2 => ?_
    k_unfold
    (try dsimp only)
    have B2 : PyProof.Rows.Based _ _ _ _ _ := B1
    refine goodWG_reads (d := .bool true) (as := []) B2 F2 hgb ?_ ?_ ?_ ?_ ?_
    · exact raisesW_false (by wrow_none_raised)
    · first | exact .bool true | exact readsW_of_reads (.bool true) | w_reads
    · exact unshared_nil
    · first | rfl | exact postW_of (by wrow_shape) (by wtm_val) (by str_meet; first | done | w_fin)
    · first | rfl | row_os)
end
set_option maxRecDepth 100000 in
theorem PySem.Challenge.cw_ad6014_01_holds : PySem.Challenge.rw_ad6014_01.Holds := by
  exact Mine.t
