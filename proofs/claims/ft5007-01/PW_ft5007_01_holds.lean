import PyProof.Rows.All
import Wide.All
import OpenK.AllK
import Wide.FinOn
import Lean
import PySem.Challenge.RW_ft5007_01
set_option Elab.async false
set_option rowWalk.seconds 0
section
open PySem PySem.W PyProof.Rows
namespace Mine
set_option maxRecDepth 100000 in
set_option maxHeartbeats 8000000 in
open_top hd for PySem.Challenge.rw_ft5007_01
end Mine
end
namespace Mine
/-- the contracts are walked without the lines of a module's top -/
theorem top_off : True := by
  w_top off
  trivial
end Mine
section
open PySem PyProof.Rows
namespace Mine
namespace SetT
open SetTable

/-! ## below -/
theorem below_go (xs : Array Nat) (j : Nat) : ∀ (fuel lo hi : Nat), lo ≤ hi → hi ≤ xs.size → hi - lo ≤ fuel →
    lo ≤ below.go xs j fuel lo hi ∧ below.go xs j fuel lo hi ≤ hi := by
  intro fuel
  induction fuel with
  | zero => intro lo hi h1 _ _; unfold below.go; omega
  | succ fuel ih =>
    intro lo hi h1 h2 h3
    unfold below.go
    by_cases hlt : lo < hi
    · simp only [hlt, if_true]
      split
      · have := ih ((lo + hi) / 2 + 1) hi (by omega) h2 (by omega); omega
      · have := ih lo ((lo + hi) / 2) (by omega) (by omega) (by omega); omega
    · simp only [hlt, if_false]; omega

theorem below_le (xs : Array Nat) (j : Nat) : below xs j ≤ xs.size := by
  unfold below; exact (below_go xs j xs.size 0 xs.size (Nat.zero_le _) (Nat.le_refl _) (by omega)).2

def Sorted (xs : Array Nat) : Prop := ∀ i k, i < k → k < xs.size → xs.getD i 0 < xs.getD k 0

theorem below_spec_go (xs : Array Nat) (hs : Sorted xs) (j : Nat) : ∀ (fuel lo hi : Nat), lo ≤ hi → hi ≤ xs.size → hi - lo ≤ fuel →
    (∀ i, i < lo → xs.getD i 0 < j) → (∀ i, hi ≤ i → i < xs.size → j ≤ xs.getD i 0) →
    (∀ i, i < below.go xs j fuel lo hi → xs.getD i 0 < j) ∧ (∀ i, below.go xs j fuel lo hi ≤ i → i < xs.size → j ≤ xs.getD i 0) := by
  intro fuel
  induction fuel with
  | zero =>
    intro lo hi h1 h2 h3 a b
    unfold below.go
    have : lo = hi := by omega
    subst this
    exact ⟨a, b⟩
  | succ fuel ih =>
    intro lo hi h1 h2 h3 a b
    unfold below.go
    by_cases hlt : lo < hi
    · simp only [hlt, if_true]
      have hgd : xs.getD ((lo + hi) / 2) j = xs.getD ((lo + hi) / 2) 0 := by
        have : (lo + hi) / 2 < xs.size := by omega
        simp [Array.getD, this]
      rw [hgd]
      split
      · rename_i hm
        refine ih ((lo + hi) / 2 + 1) hi (by omega) h2 (by omega) (fun i hi' => ?_) b
        by_cases e : i = (lo + hi) / 2
        · subst e; exact hm
        · exact Nat.lt_trans (hs i ((lo + hi) / 2) (by omega) (by omega)) hm
      · rename_i hm
        refine ih lo ((lo + hi) / 2) (by omega) (by omega) (by omega) a (fun i hi' hsz => ?_)
        by_cases e : i = (lo + hi) / 2
        · subst e; omega
        · have := hs ((lo + hi) / 2) i (by omega) hsz; omega
    · simp only [hlt, if_false]
      have : lo = hi := by omega
      subst this
      exact ⟨a, b⟩

theorem below_spec (xs : Array Nat) (hs : Sorted xs) (j : Nat) :
    (∀ i, i < below xs j → xs.getD i 0 < j) ∧ (∀ i, below xs j ≤ i → i < xs.size → j ≤ xs.getD i 0) := by
  unfold below
  exact below_spec_go xs hs j xs.size 0 xs.size (Nat.zero_le _) (Nat.le_refl _) (by omega) (fun i h => by omega) (fun i h1 h2 => by omega)

/-- the place of a member -/
theorem below_mem (xs : Array Nat) (hs : Sorted xs) (i : Nat) (hi : i < xs.size) : below xs (xs.getD i 0) = i := by
  obtain ⟨a, b⟩ := below_spec xs hs (xs.getD i 0)
  rcases Nat.lt_trichotomy (below xs (xs.getD i 0)) i with h | h | h
  · have := b _ (Nat.le_refl _) (Nat.lt_trans h hi)
    have := hs _ _ h hi
    omega
  · exact h
  · have := a i h; omega
theorem below_after (xs : Array Nat) (hs : Sorted xs) (i : Nat) (hi : i < xs.size) : below xs (xs.getD i 0 + 1) = i + 1 := by
  obtain ⟨a, b⟩ := below_spec xs hs (xs.getD i 0 + 1)
  have hle := below_le xs (xs.getD i 0 + 1)
  rcases Nat.lt_trichotomy (below xs (xs.getD i 0 + 1)) (i + 1) with h | h | h
  · have := b i (by omega) hi; omega
  · exact h
  · have := a (i + 1) h
    have := hs i (i + 1) (by omega) (by omega)
    omega
theorem below_zero (xs : Array Nat) (hs : Sorted xs) : below xs 0 = 0 := by
  obtain ⟨a, _⟩ := below_spec xs hs 0
  rcases Nat.eq_zero_or_pos (below xs 0) with h | h
  · exact h
  · have := a 0 h; omega

theorem getD_of_lt {α : Type} (xs : Array α) (d : α) {i : Nat} (h : i < xs.size) : xs[i]? = some (xs.getD i d) := by
  simp [Array.getD, h]

/-- slots -/
theorem slot_cases (t : SetTable) (j : Nat) (h : t.slot j ≠ .empty) : j ∈ t.place.toList ∨ j ∈ t.dummies.toList := by
  unfold slot at h
  dsimp only at h
  split at h
  · rename_i hp
    left
    have hp' := beq_iff_eq.mp hp
    exact Array.mem_toList_iff.mpr (Array.mem_of_getElem? hp')
  · split at h
    · rename_i _ hd
      right
      unfold has at hd
      have hd' := beq_iff_eq.mp hd
      exact Array.mem_toList_iff.mpr (Array.mem_of_getElem? hd')
    · exact absurd rfl h

theorem slot_dummy {t : SetTable} {j : Nat} (h : t.slot j = .dummy) : has t.dummies j = true := by
  unfold slot at h
  dsimp only at h
  split at h
  · cases h
  · split at h
    · assumption
    · cases h

theorem slot_not_place {t : SetTable} (hs : Sorted t.place) {j : Nat} (h : t.slot j = .empty ∨ t.slot j = .dummy) : j ∉ t.place.toList := by
  intro hm
  obtain ⟨i, hi, he⟩ := List.mem_iff_getElem.mp hm
  have hi' : i < t.place.size := by simpa using hi
  have he' : t.place.getD i 0 = j := by simp [Array.getD, hi']; simpa using he
  have hb := below_mem t.place hs i hi'
  rw [he'] at hb
  have : t.slot j = .live i := by
    unfold slot
    dsimp only
    rw [hb, getD_of_lt t.place 0 hi', he']
    simp
  rw [this] at h
  rcases h with h | h <;> cases h

theorem exists_empty (t : SetTable) (h : t.fill ≤ t.mask) : ∃ e, e ≤ t.mask ∧ t.slot e = .empty := by
  false_or_by_contra
  rename_i hn
  have hall : ∀ e, e ≤ t.mask → e ∈ t.place.toList ++ t.dummies.toList := by
    intro e he
    rcases slot_cases t e (fun q => hn ⟨e, he, q⟩) with h1 | h1
    · exact List.mem_append_left _ h1
    · exact List.mem_append_right _ h1
  have hsub : List.Subset (List.range (t.mask + 1)) (t.place.toList ++ t.dummies.toList) := fun e he => hall e (by have := List.mem_range.mp he; omega)
  have hlen := (List.nodup_range (n := t.mask + 1)).length_le_of_subset hsub
  simp at hlen
  unfold SetTable.fill at h
  omega

/-! ## the orbit of a probe -/
def iAfter (mask : Nat) : Nat → Nat → Nat → Nat
  | i, _, 0 => i
  | i, p, m + 1 => iAfter mask (leap mask i p).1 (leap mask i p).2 m
def pAfter (p : Nat) : Nat → Nat
  | 0 => p
  | m + 1 => pAfter (p / 32) m

theorem iAfter_add (mask : Nat) : ∀ (a b i p : Nat), iAfter mask i p (a + b) = iAfter mask (iAfter mask i p a) (pAfter p a) b := by
  intro a
  induction a with
  | zero => intro b i p; simp [iAfter, pAfter]
  | succ a ih =>
    intro b i p
    rw [show a + 1 + b = (a + b) + 1 by omega]
    simp only [iAfter, pAfter]
    rw [ih]
    rfl

theorem pAfter_eq : ∀ (m p : Nat), pAfter p m = p / 32 ^ m := by
  intro m
  induction m with
  | zero => intro p; simp [pAfter]
  | succ m ih => intro p; simp only [pAfter]; rw [ih, Nat.div_div_eq_div_mul, Nat.pow_succ, Nat.mul_comm]

theorem iAfter_le (mask : Nat) : ∀ (m i p : Nat), i ≤ mask → iAfter mask i p m ≤ mask := by
  intro m
  induction m with
  | zero => intro i p h; exact h
  | succ m ih =>
    intro i p h
    refine ih _ _ ?_
    unfold leap
    have := Nat.mod_lt (i * 5 + 1 + p / 32) (Nat.succ_pos mask)
    exact Nat.le_of_lt_succ this

def orbit (mask : Nat) : Nat → Nat → List Nat
  | 0, _ => []
  | n + 1, i => i :: orbit mask n ((i * 5 + 1) % (mask + 1))
def fullCycle (mask : Nat) : Bool := (List.range (mask + 1)).all fun i => let o := orbit mask (mask + 1) i; (List.range (mask + 1)).all fun e => o.contains e

theorem orbit_mem (mask : Nat) : ∀ (n i e : Nat), e ∈ orbit mask n i → ∃ m, m < n ∧ iAfter mask i 0 m = e := by
  intro n
  induction n with
  | zero => intro i e h; cases h
  | succ n ih =>
    intro i e h
    rcases List.mem_cons.mp h with rfl | h
    · exact ⟨0, by omega, rfl⟩
    · obtain ⟨m, hm, he⟩ := ih _ _ h
      refine ⟨m + 1, by omega, ?_⟩
      simp only [iAfter, leap]
      simpa using he

theorem reaches {mask : Nat} (hc : fullCycle mask = true) {i p e : Nat} (hi : i ≤ mask) (hp : p < 2 ^ 64) (he : e ≤ mask) : ∃ m, m ≤ mask + 13 ∧ iAfter mask i p m = e := by
  have h0 : pAfter p 13 = 0 := by
    rw [pAfter_eq]
    refine Nat.div_eq_of_lt (Nat.lt_trans hp ?_)
    decide
  have hi' := iAfter_le mask 13 i p hi
  unfold fullCycle at hc
  rw [List.all_eq_true] at hc
  have h1 := hc (iAfter mask i p 13) (List.mem_range.mpr (by omega))
  dsimp only at h1
  rw [List.all_eq_true] at h1
  have h2 := h1 e (List.mem_range.mpr (by omega))
  rw [List.contains_iff_mem] at h2
  obtain ⟨m, hm, hme⟩ := orbit_mem mask _ _ _ h2
  refine ⟨13 + m, by omega, ?_⟩
  rw [iAfter_add, h0, hme]

def Masks (n : Nat) : Prop := n = 7 ∨ n = 15 ∨ n = 31 ∨ n = 63
theorem Masks.full {n : Nat} (h : Masks n) : fullCycle n = true := by
  rcases h with rfl | rfl | rfl | rfl <;> decide +kernel
theorem Masks.le {n : Nat} (h : Masks n) : 7 ≤ n ∧ n ≤ 63 := by rcases h with rfl | rfl | rfl | rfl <;> omega

theorem sizeAbove_masks : ∀ n, n < 64 → Masks (sizeAbove n - 1) ∧ n < sizeAbove n := by
  have h : (List.range 64).all (fun n => (sizeAbove n - 1 == 7 || sizeAbove n - 1 == 15 || sizeAbove n - 1 == 31 || sizeAbove n - 1 == 63) && decide (n < sizeAbove n)) = true := by decide +kernel
  intro n hn
  have := List.all_eq_true.mp h n (List.mem_range.mpr hn)
  simp only [Bool.and_eq_true, Bool.or_eq_true, beq_iff_eq, decide_eq_true_eq] at this
  refine ⟨?_, this.2⟩
  unfold Masks
  have h1 := this.1
  omega

end SetT
end Mine
end
section
open PySem PyProof.Rows
namespace Mine
namespace SetT
open SetTable

def Res (t : SetTable) (r : Option Met) : Prop := ∃ j d, r = some (.empty j d) ∧ t.slot j = .empty ∧ (d = none ∨ ∃ e, d = some e ∧ t.slot e = .dummy)
def DumOk (t : SetTable) (p : Probe) : Prop := p.dummy = none ∨ ∃ e, p.dummy = some e ∧ t.slot e = .dummy

theorem runEnd_le (mask i : Nat) : runEnd mask i - i ≤ 9 := by unfold runEnd; split <;> omega

theorem go_step {t : SetTable} {h : Int} {p : Probe} {F : Nat} (hd : DumOk t p)
    (k : ∀ p', DumOk t p' → p'.j = p.j → p'.more = p.more → p'.i = p.i → p'.perturb = p.perturb → Res t (probe.go t (fun _ => h + 1) h F (t.advance p'))) :
    Res t (probe.go t (fun _ => h + 1) h (F + 1) p) := by
  unfold probe.go
  cases hs : t.slot p.j with
  | empty => exact ⟨p.j, p.dummy, rfl, hs, hd⟩
  | dummy => exact k { p with dummy := some p.j } (.inr ⟨p.j, rfl, hs⟩) rfl rfl rfl rfl
  | live i =>
    have hne : (h + 1 == h) = false := by rw [beq_eq_false_iff_ne]; omega
    simp only [hne, Bool.false_eq_true, if_false]
    exact k p hd rfl rfl rfl rfl

theorem advance_more {t : SetTable} {p : Probe} (h : p.more > 0) : t.advance p = { p with j := p.j + 1, more := p.more - 1 } := by
  unfold advance; rw [if_pos h]
theorem advance_leap {t : SetTable} {p : Probe} (h : p.more = 0) : t.advance p =
    { p with j := (leap t.mask p.i p.perturb).1, more := runEnd t.mask (leap t.mask p.i p.perturb).1 - (leap t.mask p.i p.perturb).1, i := (leap t.mask p.i p.perturb).1, perturb := (leap t.mask p.i p.perturb).2 } := by
  unfold advance; rw [if_neg (by omega)]

theorem go_empty {t : SetTable} {h : Int} {p : Probe} {F : Nat} (hd : DumOk t p) (hs : t.slot p.j = .empty) : Res t (probe.go t (fun _ => h + 1) h (F + 1) p) := by
  unfold probe.go
  rw [hs]
  exact ⟨p.j, p.dummy, rfl, hs, hd⟩

theorem go_reaches (t : SetTable) (h : Int) : ∀ (m more : Nat) (p : Probe) (F : Nat), p.more = more → more ≤ 9 → more + 1 + 10 * (m + 1) ≤ F → DumOk t p →
    t.slot (iAfter t.mask p.i p.perturb (m + 1)) = .empty → Res t (probe.go t (fun _ => h + 1) h F p) := by
  intro m
  induction m with
  | zero =>
    intro more
    induction more with
    | zero =>
      intro p F hm _ hF hd hs
      obtain ⟨F', rfl⟩ : ∃ F', F = F' + 2 := ⟨F - 2, by omega⟩
      refine go_step (F := F' + 1) hd fun p' hd' e1 e2 e3 e4 => ?_
      rw [advance_leap (by rw [e2, hm])]
      refine go_empty (by rcases hd' with q | ⟨e, q, r⟩; exact .inl q; exact .inr ⟨e, q, r⟩) ?_
      dsimp only
      rw [e3, e4]
      exact hs
    | succ more ih =>
      intro p F hm hle hF hd hs
      obtain ⟨F', rfl⟩ : ∃ F', F = F' + 1 := ⟨F - 1, by omega⟩
      refine go_step hd fun p' hd' e1 e2 e3 e4 => ?_
      rw [advance_more (by rw [e2, hm]; omega)]
      refine ih _ _ (by dsimp only; rw [e2, hm]; rfl) (by omega) (by omega) (by rcases hd' with q | ⟨e, q, r⟩; exact .inl q; exact .inr ⟨e, q, r⟩) ?_
      dsimp only
      rw [e3, e4]
      exact hs
  | succ m ihm =>
    intro more
    induction more with
    | zero =>
      intro p F hm _ hF hd hs
      obtain ⟨F', rfl⟩ : ∃ F', F = F' + 1 := ⟨F - 1, by omega⟩
      refine go_step hd fun p' hd' e1 e2 e3 e4 => ?_
      rw [advance_leap (by rw [e2, hm])]
      have hr := runEnd_le t.mask (leap t.mask p'.i p'.perturb).1
      refine ihm (runEnd t.mask (leap t.mask p'.i p'.perturb).1 - (leap t.mask p'.i p'.perturb).1) _ _ rfl hr (by omega) (by rcases hd' with q | ⟨e, q, r⟩; exact .inl q; exact .inr ⟨e, q, r⟩) ?_
      dsimp only
      rw [e3, e4]
      exact hs
    | succ more ih =>
      intro p F hm hle hF hd hs
      obtain ⟨F', rfl⟩ : ∃ F', F = F' + 1 := ⟨F - 1, by omega⟩
      refine go_step hd fun p' hd' e1 e2 e3 e4 => ?_
      rw [advance_more (by rw [e2, hm]; omega)]
      refine ih _ _ (by dsimp only; rw [e2, hm]; rfl) (by omega) (by omega) (by rcases hd' with q | ⟨e, q, r⟩; exact .inl q; exact .inr ⟨e, q, r⟩) ?_
      dsimp only
      rw [e3, e4]
      exact hs

theorem bits_lt (h : Int) : bits h < 2 ^ 64 := by
  unfold bits
  have h1 := Int.emod_lt_of_pos h (b := (2 ^ 64 : Int)) (by decide)
  have h2 := Int.emod_nonneg h (b := (2 ^ 64 : Int)) (by decide)
  omega

theorem probe_ok (t : SetTable) (h : Int) (hm : Masks t.mask) (hf : t.fill ≤ t.mask) : Res t (t.probe (fun _ => h + 1) h (t.probeStart h)) := by
  obtain ⟨e, he, hs⟩ := exists_empty t hf
  have hi : bits h % (t.mask + 1) ≤ t.mask := Nat.le_of_lt_succ (Nat.mod_lt _ (Nat.succ_pos _))
  obtain ⟨m, hmle, hme⟩ := reaches hm.full hi (bits_lt h) he
  unfold probe
  have hml := hm.le
  cases m with
  | zero =>
    obtain ⟨F, hF⟩ : ∃ F, 10 * turns t.mask = F + 1 := ⟨10 * turns t.mask - 1, by unfold turns; omega⟩
    rw [hF]
    refine go_empty (.inl rfl) ?_
    show t.slot (bits h % (t.mask + 1)) = .empty
    have hme' : bits h % (t.mask + 1) = e := hme
    rw [hme']; exact hs
  | succ m =>
    refine go_reaches t h m _ (t.probeStart h) _ rfl (runEnd_le _ _) ?_ (.inl rfl) ?_
    · have := runEnd_le t.mask (bits h % (t.mask + 1))
      show runEnd t.mask (bits h % (t.mask + 1)) - bits h % (t.mask + 1) + 1 + 10 * (m + 1) ≤ 10 * turns t.mask
      unfold turns
      omega
    · show t.slot (iAfter t.mask (bits h % (t.mask + 1)) (bits h) (m + 1)) = .empty
      rw [hme]; exact hs

theorem freeSlot_ok (t : SetTable) (h : Int) (hm : Masks t.mask) (hf : t.fill ≤ t.mask) :
    ∃ sl wd, t.freeSlot h = some (sl, wd) ∧ ((wd = false ∧ t.slot sl = .empty) ∨ (wd = true ∧ t.slot sl = .dummy)) := by
  obtain ⟨j, d, hp, hj, hd⟩ := probe_ok t h hm hf
  unfold freeSlot
  rw [hp]
  dsimp only
  rcases hd with rfl | ⟨e, rfl, he⟩
  · exact ⟨j, false, rfl, .inl ⟨rfl, hj⟩⟩
  · exact ⟨e, true, rfl, .inr ⟨rfl, he⟩⟩

/-! ## insertion, erasure keep the order -/
theorem insertAt_size {α : Type} (xs : Array α) (p : Nat) (x : α) (h : p ≤ xs.size) : (insertAt xs p x).size = xs.size + 1 := by
  unfold insertAt; simp; omega
theorem eraseAt_size {α : Type} (xs : Array α) (p : Nat) (h : p < xs.size) : (eraseAt xs p).size + 1 = xs.size := by
  unfold eraseAt; simp; omega

theorem insertAt_get {α : Type} (xs : Array α) (p : Nat) (x : α) (h : p ≤ xs.size) (i : Nat) : (insertAt xs p x)[i]? = if i < p then xs[i]? else if i = p then some x else xs[i - 1]? := by
  unfold insertAt
  by_cases h1 : i < p
  · rw [if_pos h1, Array.getElem?_append_left (by simp; omega), Array.getElem?_push_lt (by simp; omega)]
    simp
  · rw [if_neg h1]
    by_cases h2 : i = p
    · subst h2
      rw [if_pos rfl, Array.getElem?_append_left (by simp; omega)]
      have : (xs.extract 0 i).size = i := by simp; omega
      conv => lhs; rhs; rw [← this]
      rw [Array.getElem?_push_size]
    · rw [if_neg h2, Array.getElem?_append_right (by simp; omega)]
      simp [Array.getElem?_extract]
      have e : p + (i - (min p xs.size + 1)) = i - 1 := by omega
      rw [e]
      split
      · rfl
      · rw [Array.getElem?_eq_none (by omega)]

theorem getD_eq {xs : Array Nat} {i v : Nat} (h : xs[i]? = some v) : xs.getD i 0 = v := by
  have : i < xs.size := by
    rcases Nat.lt_or_ge i xs.size with q | q
    · exact q
    · rw [Array.getElem?_eq_none q] at h; cases h
  have e := getD_of_lt xs 0 this
  rw [h] at e
  exact (Option.some.inj e).symm

theorem sorted_insert (xs : Array Nat) (hs : Sorted xs) (j : Nat) (hn : j ∉ xs.toList) : Sorted (insertAt xs (below xs j) j) := by
  have hle := below_le xs j
  obtain ⟨a, b⟩ := below_spec xs hs j
  have hne : ∀ i, i < xs.size → xs.getD i 0 ≠ j := fun i hi e => hn (by
    rw [← e]; exact Array.mem_toList_iff.mpr (Array.mem_of_getElem? (getD_of_lt xs 0 hi)))
  have val : ∀ i, i < xs.size + 1 → (insertAt xs (below xs j) j).getD i 0 = if i < below xs j then xs.getD i 0 else if i = below xs j then j else xs.getD (i - 1) 0 := by
    intro i hi
    refine getD_eq ?_
    rw [insertAt_get xs _ j hle]
    by_cases h1 : i < below xs j
    · rw [if_pos h1, if_pos h1]; exact getD_of_lt xs 0 (by omega)
    · rw [if_neg h1, if_neg h1]
      by_cases h2 : i = below xs j
      · rw [if_pos h2, if_pos h2]
      · rw [if_neg h2, if_neg h2]; exact getD_of_lt xs 0 (by omega)
  intro i k hik hk
  rw [insertAt_size xs _ j hle] at hk
  rw [val i (by omega), val k hk]
  by_cases k1 : k < below xs j
  · rw [if_pos k1, if_pos (by omega)]; exact hs i k hik (by omega)
  · rw [if_neg k1]
    by_cases k2 : k = below xs j
    · rw [if_pos k2, if_pos (by omega)]; exact a i (by omega)
    · rw [if_neg k2]
      by_cases i1 : i < below xs j
      · rw [if_pos i1]
        have := a i i1
        have := b (k - 1) (by omega) (by omega)
        omega
      · rw [if_neg i1]
        by_cases i2 : i = below xs j
        · rw [if_pos i2]
          have := b (k - 1) (by omega) (by omega)
          have := hne (k - 1) (by omega)
          omega
        · rw [if_neg i2]; exact hs (i - 1) (k - 1) (by omega) (by omega)

theorem eraseAt_get {α : Type} (xs : Array α) (p : Nat) (h : p < xs.size) (i : Nat) : (eraseAt xs p)[i]? = if i < p then xs[i]? else xs[i + 1]? := by
  unfold eraseAt
  by_cases h1 : i < p
  · rw [if_pos h1, Array.getElem?_append_left (by simp; omega)]
    simp [Array.getElem?_extract]
    omega
  · rw [if_neg h1, Array.getElem?_append_right (by simp; omega)]
    simp [Array.getElem?_extract]
    have e : p + 1 + (i - min p xs.size) = i + 1 := by omega
    rw [e]
    split
    · rfl
    · rw [Array.getElem?_eq_none (by omega)]

theorem sorted_erase (xs : Array Nat) (hs : Sorted xs) (p : Nat) (hp : p < xs.size) : Sorted (eraseAt xs p) := by
  have hsz := eraseAt_size xs p hp
  have val : ∀ i, i < (eraseAt xs p).size → (eraseAt xs p).getD i 0 = if i < p then xs.getD i 0 else xs.getD (i + 1) 0 := by
    intro i hi
    refine getD_eq ?_
    rw [eraseAt_get xs p hp]
    by_cases h1 : i < p
    · rw [if_pos h1, if_pos h1]; exact getD_of_lt xs 0 (by omega)
    · rw [if_neg h1, if_neg h1]; exact getD_of_lt xs 0 (by omega)
  intro i k hik hk
  rw [val i (by omega), val k hk]
  by_cases k1 : k < p
  · rw [if_pos k1, if_pos (by omega)]; exact hs i k hik (by omega)
  · rw [if_neg k1]
    by_cases i1 : i < p
    · rw [if_pos i1]; exact hs i (k + 1) (by omega) (by omega)
    · rw [if_neg i1]; exact hs (i + 1) (k + 1) (by omega) (by omega)

theorem toList_eraseAt {α : Type} (xs : Array α) (p : Nat) (h : p < xs.size) : (eraseAt xs p).toList = xs.toList.eraseIdx p := by
  apply List.ext_getElem?
  intro i
  rw [Array.getElem?_toList, eraseAt_get xs p h, List.getElem?_eraseIdx]
  by_cases h1 : i < p
  · rw [if_pos h1, if_pos h1, Array.getElem?_toList]
  · rw [if_neg h1, if_neg h1, Array.getElem?_toList]
end SetT
end Mine
end
section
open PySem PyProof.Rows
namespace Mine
namespace SetT
open SetTable

structure TabOk (t : SetTable) : Prop where
  mask : Masks t.mask
  sorted : Sorted t.place
  room : t.fill * 5 < t.mask * 3
  plain : t.plain = true

theorem TabOk.fill_le {t : SetTable} (h : TabOk t) : t.fill ≤ t.mask := by have := h.room; omega

theorem tabOk_fresh (f m : Nat) (led : Bool) : TabOk (.fresh f m led) where
  mask := .inl rfl
  sorted := fun i k _ hk => by simp [SetTable.fresh] at hk
  room := by simp [SetTable.fresh, SetTable.fill]
  plain := rfl

/-- a free slot is filled -/
theorem layNew_ok (t : SetTable) (ht : TabOk t) (es : Array (Int × Value)) (hn : t.place.size = es.size) (h : Int) (x : Value) :
    ∃ es' t' wd p, layNew t es h x = (es', t', wd, false) ∧ p ≤ es.size ∧ es' = insertAt es p (h, x) ∧ t'.place.size = es'.size ∧ t'.mask = t.mask ∧ Sorted t'.place ∧ t'.plain = true ∧ t'.led = t.led ∧
      (wd = true → t'.fill * 5 < t'.mask * 3) ∧ t'.fill ≤ t'.mask := by
  obtain ⟨sl, wd, hf, hsl⟩ := freeSlot_ok t h ht.mask ht.fill_le
  have hnp : sl ∉ t.place.toList := slot_not_place ht.sorted (by rcases hsl with ⟨_, q⟩ | ⟨_, q⟩; exact .inl q; exact .inr q)
  have hle := below_le t.place sl
  have hm := ht.mask.le
  have hroom := ht.room
  unfold layNew
  rw [hf]
  dsimp only
  unfold put
  dsimp only
  have hsz : (insertAt es (below t.place sl) (h, x)).size = es.size + 1 := insertAt_size _ _ _ (by omega)
  have hpz : (insertAt t.place (below t.place sl) sl).size = t.place.size + 1 := insertAt_size _ _ _ hle
  unfold SetTable.fill at hroom
  rcases hsl with ⟨rfl, hemp⟩ | ⟨rfl, hdum⟩
  · have hnd : has t.dummies sl = false := by
      cases hh : has t.dummies sl with
      | false => rfl
      | true =>
        exfalso
        unfold slot at hemp
        dsimp only at hemp
        rw [hh] at hemp
        split at hemp <;> simp at hemp
    rw [hnd]
    simp only [Bool.false_eq_true, if_false]
    have hfit : ({ t with place := insertAt t.place (below t.place sl) sl } : SetTable).fits (insertAt es (below t.place sl) (h, x)).size = true := by
      unfold SetTable.fits SetTable.fill
      simp only [Bool.and_eq_true, beq_iff_eq, decide_eq_true_eq]
      rw [hsz, hpz]; omega
    refine ⟨_, _, _, below t.place sl, by rw [hfit]; rfl, by omega, rfl, ?_⟩
    unfold SetTable.orStandIn
    rw [if_pos hfit]
    refine ⟨by rw [hsz, hpz, hn], rfl, sorted_insert _ ht.sorted _ hnp, ht.plain, rfl, fun q => (by cases q), ?_⟩
    unfold SetTable.fill
    dsimp only
    rw [hpz]; omega
  · have hd := slot_dummy hdum
    rw [hd]
    simp only [if_true]
    have hlt : below t.dummies sl < t.dummies.size := by
      unfold has at hd
      rcases Nat.lt_or_ge (below t.dummies sl) t.dummies.size with q | q
      · exact q
      · rw [Array.getElem?_eq_none q] at hd; simp at hd
    have hez := eraseAt_size t.dummies _ hlt
    have hfit : ({ t with place := insertAt t.place (below t.place sl) sl, dummies := eraseAt t.dummies (below t.dummies sl) } : SetTable).fits (insertAt es (below t.place sl) (h, x)).size = true := by
      unfold SetTable.fits SetTable.fill
      simp only [Bool.and_eq_true, beq_iff_eq, decide_eq_true_eq]
      rw [hsz, hpz]; omega
    refine ⟨_, _, _, below t.place sl, by rw [hfit]; rfl, by omega, rfl, ?_⟩
    unfold SetTable.orStandIn
    rw [if_pos hfit]
    refine ⟨by rw [hsz, hpz, hn], rfl, sorted_insert _ ht.sorted _ hnp, ht.plain, rfl, fun _ => ?_, ?_⟩
    · unfold SetTable.fill
      dsimp only
      rw [hpz]; omega
    · unfold SetTable.fill
      dsimp only
      rw [hpz]; omega

theorem drop_ok (t : SetTable) (ht : TabOk t) (i : Nat) (hi : i < t.place.size) : TabOk (t.drop i) ∧ (t.drop i).place.size + 1 = t.place.size ∧ (t.drop i).led = t.led := by
  unfold drop
  rw [getD_of_lt t.place 0 hi]
  dsimp only
  have h1 := eraseAt_size t.place i hi
  have h2 := insertAt_size t.dummies (below t.dummies (t.place.getD i 0)) (t.place.getD i 0) (below_le _ _)
  refine ⟨⟨ht.mask, sorted_erase _ ht.sorted _ hi, ?_, ht.plain⟩, h1, rfl⟩
  have := ht.room
  unfold SetTable.fill at this ⊢
  dsimp only
  omega

/-! ## a clean table -/
def ownVals (owner : Array (Option Nat)) : List Nat := owner.toList.filterMap id

theorem ownVals_set (owner : Array (Option Nat)) (j k : Nat) (hj : owner[j]? = some none) : List.Perm (ownVals (owner.setIfInBounds j (some k))) (k :: ownVals owner) := by
  unfold ownVals
  obtain ⟨l⟩ := owner
  have hj' : l[j]? = some none := by simpa using hj
  have hlt : j < l.length := by
    rcases Nat.lt_or_ge j l.length with q | q
    · exact q
    · rw [List.getElem?_eq_none q] at hj'; cases hj'
  have e : l = l.take j ++ none :: l.drop (j + 1) := by
    have h1 := (List.take_append_drop j l).symm
    have h2 : l.drop j = none :: l.drop (j + 1) := by
      rw [List.drop_eq_getElem_cons hlt]
      congr 1
      rw [List.getElem?_eq_getElem hlt] at hj'
      exact Option.some.inj hj'
    rw [h2] at h1; exact h1
  have es : (Array.setIfInBounds ⟨l⟩ j (some k)).toList = l.take j ++ some k :: l.drop (j + 1) := by
    have : (Array.setIfInBounds ⟨l⟩ j (some k)).toList = l.set j (some k) := by simp
    rw [this, List.set_eq_take_append_cons_drop, if_pos hlt]
  rw [es]
  show List.Perm _ (k :: l.filterMap id)
  conv => rhs; rw [e]
  simp only [List.filterMap_append, List.filterMap_cons, id]
  exact List.perm_middle

theorem free_ok (owner : Array (Option Nat)) (mask : Nat) : ∀ (m fuel i p : Nat), i ≤ mask → m < fuel → owner[iAfter mask i p m]? = some none →
    ∃ j, layClean.free mask owner fuel i p = some j ∧ owner[j]? = some none := by
  intro m
  induction m with
  | zero =>
    intro fuel i p hi hf ho
    obtain ⟨F, rfl⟩ : ∃ F, fuel = F + 1 := ⟨fuel - 1, by omega⟩
    unfold layClean.free
    have hre : runEnd mask i + 1 - i = (runEnd mask i - i) + 1 := by unfold runEnd; split <;> omega
    have hfind : ∃ k, (List.range (runEnd mask i + 1 - i)).find? (fun k => (owner.getD (i + k) (some 0)).isNone) = some k := by
      have : ((List.range (runEnd mask i + 1 - i)).find? (fun k => (owner.getD (i + k) (some 0)).isNone)).isSome = true := by
        rw [List.find?_isSome]
        refine ⟨0, List.mem_range.mpr (by omega), ?_⟩
        have ho' : owner[i]? = some none := ho
        simp [Array.getD_eq_getD_getElem?, ho']
      exact Option.isSome_iff_exists.mp this
    obtain ⟨k, hk⟩ := hfind
    rw [hk]
    refine ⟨i + k, rfl, ?_⟩
    have := List.find?_some hk
    rw [Array.getD_eq_getD_getElem?] at this
    cases hq : owner[i + k]? with
    | none => rw [hq] at this; simp at this
    | some v => rw [hq] at this; simp at this; rw [this]
  | succ m ih =>
    intro fuel i p hi hf ho
    obtain ⟨F, rfl⟩ : ∃ F, fuel = F + 1 := ⟨fuel - 1, by omega⟩
    unfold layClean.free
    cases hfd : (List.range (runEnd mask i + 1 - i)).find? (fun k => (owner.getD (i + k) (some 0)).isNone) with
    | some k =>
      refine ⟨i + k, rfl, ?_⟩
      have := List.find?_some hfd
      rw [Array.getD_eq_getD_getElem?] at this
      cases hq : owner[i + k]? with
      | none => rw [hq] at this; simp at this
      | some v => rw [hq] at this; simp at this; rw [this]
    | none =>
      dsimp only
      refine ih F _ _ ?_ (by omega) ho
      unfold leap
      exact Nat.le_of_lt_succ (Nat.mod_lt _ (Nat.succ_pos mask))

theorem exists_none (owner : Array (Option Nat)) (h : (ownVals owner).length < owner.size) : ∃ e, e < owner.size ∧ owner[e]? = some none := by
  obtain ⟨l⟩ := owner
  have h' : (l.filterMap id).length < l.length := h
  have : ∃ x ∈ l, x = none := by
    false_or_by_contra
    rename_i hn
    have hall : ∀ x ∈ l, (id x : Option Nat).isSome = true := fun x hx => by
      cases x with
      | none => exact absurd ⟨none, hx, rfl⟩ hn
      | some v => rfl
    have : (l.filterMap id).length = l.length := by
      clear h h' hn
      induction l with
      | nil => rfl
      | cons a r ih =>
        have ha := hall a (.head _)
        cases a with
        | none => simp at ha
        | some v => simp [List.filterMap_cons, ih fun x hx => hall x (.tail _ hx)]
    omega
  obtain ⟨x, hx, rfl⟩ := this
  obtain ⟨i, hi, he⟩ := List.mem_iff_getElem.mp hx
  exact ⟨i, by simpa using hi, by simp [hi, he]⟩

def layStep (mask : Nat) (acc : Option (Array (Option Nat) × Nat)) (h : Int) : Option (Array (Option Nat) × Nat) := do
    let (owner, k) ← acc
    let j ← layClean.free mask owner (turns mask) (bits h % (mask + 1)) (bits h)
    pure (owner.setIfInBounds j (some k), k + 1)

theorem layStep_ok (mask : Nat) (hm : Masks mask) (owner : Array (Option Nat)) (k : Nat) (hsz : owner.size = mask + 1) (hp : List.Perm (ownVals owner) (List.range k)) (hk : k ≤ mask) (h : Int) :
    ∃ owner', layStep mask (some (owner, k)) h = some (owner', k + 1) ∧ owner'.size = mask + 1 ∧ List.Perm (ownVals owner') (List.range (k + 1)) := by
  have hlen := hp.length_eq
  rw [List.length_range] at hlen
  obtain ⟨e, he, hn⟩ := exists_none owner (by omega)
  have hi : bits h % (mask + 1) ≤ mask := Nat.le_of_lt_succ (Nat.mod_lt _ (Nat.succ_pos _))
  obtain ⟨m, hmle, hme⟩ := reaches hm.full hi (bits_lt h) (e := e) (by omega)
  obtain ⟨j, hj, hjn⟩ := free_ok owner mask m (turns mask) _ (bits h) hi (by unfold turns; omega) (by rw [hme]; exact hn)
  refine ⟨owner.setIfInBounds j (some k), ?_, by simp [hsz], ?_⟩
  · unfold layStep
    simp only [Option.bind_eq_bind, Option.bind_some, hj]
    rfl
  · refine (ownVals_set owner j k hjn).trans ?_
    rw [List.range_succ]
    exact (List.Perm.cons k hp).trans (List.perm_append_singleton k _).symm

theorem layFold_ok (mask : Nat) (hm : Masks mask) : ∀ (hs : List Int) (owner : Array (Option Nat)) (k : Nat), owner.size = mask + 1 → List.Perm (ownVals owner) (List.range k) → k + hs.length ≤ mask + 1 →
    ∃ owner', hs.foldl (layStep mask) (some (owner, k)) = some (owner', k + hs.length) ∧ owner'.size = mask + 1 ∧ List.Perm (ownVals owner') (List.range (k + hs.length)) := by
  intro hs
  induction hs with
  | nil => intro owner k h1 h2 _; exact ⟨owner, rfl, h1, h2⟩
  | cons h r ih =>
    intro owner k h1 h2 h3
    rw [List.length_cons] at h3
    obtain ⟨o', e, s', p'⟩ := layStep_ok mask hm owner k h1 h2 (by omega) h
    obtain ⟨o'', e', s'', p''⟩ := ih o' (k + 1) s' p' (by omega)
    refine ⟨o'', ?_, s'', ?_⟩
    · rw [List.foldl_cons, e, e', List.length_cons]; congr 2; omega
    · rw [List.length_cons]; rw [show k + (r.length + 1) = k + 1 + r.length by omega]; exact p''

theorem layClean_ok (mask : Nat) (hm : Masks mask) (hs : Array Int) (hn : hs.size ≤ mask + 1) : ∃ owner, layClean mask hs = some owner ∧ owner.size = mask + 1 ∧ List.Perm (ownVals owner) (List.range hs.size) := by
  have h0 : List.Perm (ownVals (Array.replicate (mask + 1) none)) (List.range 0) := by
    unfold ownVals; simp
  obtain ⟨o', e, s', p'⟩ := layFold_ok mask hm hs.toList (Array.replicate (mask + 1) none) 0 (by simp) h0 (by simpa using hn)
  refine ⟨o', ?_, s', by simpa using p'⟩
  unfold layClean
  rw [← Array.foldl_toList]
  have : (hs.toList.foldl (layStep mask) (some (Array.replicate (mask + 1) none, 0))).map (·.1) = some o' := by rw [e]; rfl
  exact this

theorem live_snd (owner : Array (Option Nat)) (mask : Nat) (hsz : owner.size = mask + 1) :
    ((List.range (mask + 1)).filterMap fun j => (owner.getD j none).map (j, ·)).map (·.2) = ownVals owner := by
  have h := filterMap_getElem?_range owner
  rw [List.map_filterMap]
  unfold ownVals
  rw [← h, List.filterMap_filterMap, hsz]
  congr 1
  funext j
  rw [Array.getD_eq_getD_getElem?]
  cases hq : owner[j]? with
  | none => rfl
  | some v => cases v <;> rfl

theorem pairwise_filterMap_fst (f : Nat → Option Nat) : ∀ l : List Nat, l.Pairwise (· < ·) → ((l.filterMap fun j => (f j).map (j, ·)).map (·.1)).Pairwise (· < ·) := by
  intro l h
  have : (l.filterMap fun j => (f j).map (j, ·)).map (·.1) = l.filter (fun j => (f j).isSome) := by
    rw [List.map_filterMap]
    clear h
    induction l with
    | nil => rfl
    | cons a r ih =>
      cases q : f a with
      | none => simp [q]; simpa using ih
      | some v => simp [q]; simpa using ih
  rw [this]
  exact h.sublist List.filter_sublist

theorem sorted_of_pairwise (l : List Nat) (h : l.Pairwise (· < ·)) : Sorted l.toArray := by
  intro i k hik hk
  have hk' : k < l.length := by simpa using hk
  have hi' : i < l.length := by omega
  have := List.pairwise_iff_getElem.mp h i k hi' hk' hik
  simpa [Array.getD, hi', hk'] using this

theorem pairwise_range (n : Nat) : (List.range n).Pairwise (· < ·) := List.pairwise_lt_range

/-- a table laid anew -/
theorem laid_ok (mask finger moves : Nat) (led : Bool) (hs : Array Int) (hm : Masks mask) (hroom : hs.size * 5 < mask * 3) :
    ∃ t order, laid mask finger moves led true hs = some (t, order) ∧ TabOk t ∧ t.place.size = hs.size ∧ t.led = led ∧ List.Perm order.toList (List.range hs.size) := by
  obtain ⟨owner, e, sz, pm⟩ := layClean_ok mask hm hs (by omega)
  have hsnd := live_snd owner mask sz
  unfold laid
  simp only [e, Option.bind_eq_bind, Option.bind_some]
  refine ⟨_, _, rfl, ?_, ?_, rfl, ?_⟩
  · refine ⟨hm, sorted_of_pairwise _ (pairwise_filterMap_fst _ _ (pairwise_range _)), ?_, rfl⟩
    unfold SetTable.fill
    simp only [List.size_toArray, List.length_map]
    have hl := congrArg List.length hsnd
    rw [List.length_map] at hl
    rw [hl, pm.length_eq, List.length_range]
    simp; exact hroom
  · simp only [List.size_toArray, List.length_map]
    have hl := congrArg List.length hsnd
    rw [List.length_map] at hl
    rw [hl, pm.length_eq, List.length_range]
  · rw [List.toList_toArray, hsnd]; exact pm

theorem relaid_ok (t : SetTable) (ht : t.plain = true) (hs : Array Int) (wanted : Nat) (hw : wanted < 64) (hn : hs.size * 2 ≤ wanted) :
    ∃ t' order, t.relaid hs wanted = some (t', order) ∧ TabOk t' ∧ t'.place.size = hs.size ∧ t'.led = t.led ∧ List.Perm order.toList (List.range hs.size) ∧ wanted ≤ t'.mask := by
  obtain ⟨h1, h2⟩ := sizeAbove_masks wanted hw
  have h3 := h1.le
  obtain ⟨t', order, e, ok, sz, ld, pm⟩ := laid_ok (sizeAbove wanted - 1) t.finger (t.movedTo (sizeAbove wanted - 1)) t.led hs h1 (by omega)
  refine ⟨t', order, ?_, ok, sz, ld, pm, ?_⟩
  · unfold relaid; rw [ht]; exact e
  · have : t'.mask = sizeAbove wanted - 1 := by
      unfold laid at e
      cases hq : layClean (sizeAbove wanted - 1) hs with
      | none => rw [hq] at e; cases e
      | some o => rw [hq] at e; simp only [Option.bind_eq_bind, Option.bind_some] at e; have := (Prod.mk.inj (Option.some.inj e)).1; rw [← this]
    omega

theorem coversAll_of {order : Array Nat} {n : Nat} (h : List.Perm order.toList (List.range n)) : coversAll order n = true := by
  unfold coversAll; exact List.isPerm_iff.mpr h

theorem pick_perm {α : Type} (es : Array α) (order : Array Nat) (h : List.Perm order.toList (List.range es.size)) : List.Perm (order.filterMap (es[·]?)).toList es.toList := by
  rw [Array.toList_filterMap]
  exact (h.filterMap _).trans (by rw [filterMap_getElem?_range])
theorem pick_size {α : Type} (es : Array α) (order : Array Nat) (h : List.Perm order.toList (List.range es.size)) : (order.filterMap (es[·]?)).size = es.size := by
  have := (pick_perm es order h).length_eq
  rw [Array.length_toList, Array.length_toList] at this
  exact this

theorem relayAll_ok (t : SetTable) (ht : t.plain = true) (es : Array (Int × Value)) (wanted : Nat) (hw : wanted < 64) (hn : es.size * 2 ≤ wanted) :
    ∃ es' t', relayAll t es wanted = (es', t', false) ∧ List.Perm es'.toList es.toList ∧ TabOk t' ∧ t'.place.size = es'.size ∧ t'.led = t.led := by
  obtain ⟨t', order, e, ok, sz, ld, pm, _⟩ := relaid_ok t ht (es.map (·.1)) wanted hw (by simpa using hn)
  have pm' : List.Perm order.toList (List.range es.size) := by simpa using pm
  have hz := pick_size es order pm'
  have hsz' : t'.place.size = es.size := by rw [sz]; simp
  refine ⟨_, t', ?_, pick_perm es order pm', ok, by rw [hz]; exact hsz', ld⟩
  unfold relayAll
  rw [e]
  dsimp only
  have hfit : t'.fits (order.filterMap (es[·]?)).size = true := by
    unfold SetTable.fits
    simp only [Bool.and_eq_true, beq_iff_eq, decide_eq_true_eq]
    exact ⟨by rw [hz]; exact hsz', ok.fill_le⟩
  rw [coversAll_of pm', hfit]
  rfl
end SetT
end Mine
end
section
open PySem PyProof.Rows
namespace Mine
open SetT

def byText (w : World) : Bool := w.params.followText "set-order"
def ival (e : Int × Value) : Int := match e.2 with | .int i _ => i | _ => 0
def EOk (e : Int × Value) : Prop := ∃ t, e = (hashInt (ival e), .int (ival e) t)

def SetRaw (w : World) (o : Obj) (es : Array (Int × Value)) (ep : Nat) (t : SetTable) : Prop :=
  o.ExactSet ∧ o.data = .set es ep t ∧ TabOk t ∧ t.place.size = es.size ∧ (t.led = true ∨ byText w = true) ∧ (∀ e ∈ es.toList, EOk e) ∧ (es.toList.map ival).Nodup
def SetIs (w : World) (o : Obj) (ks : List Int) : Prop := ∃ es ep t, SetRaw w o es ep t ∧ es.toList.map ival = ks

theorem SetIs.nodup {w : World} {o : Obj} {ks : List Int} (h : SetIs w o ks) : ks.Nodup := by obtain ⟨es, ep, t, h, rfl⟩ := h; exact h.2.2.2.2.2.2

section
variable {prog : Program} {w : World} {A : Around} {E : Value → Shared → Prop} {s : Shared} {a : Addr} {o : Obj} {ks : List Int}

theorem SetRaw.fits {es : Array (Int × Value)} {ep : Nat} {t : SetTable} (h : SetRaw w o es ep t) : t.fits es.size = true := by
  unfold SetTable.fits
  simp only [Bool.and_eq_true, beq_iff_eq, decide_eq_true_eq]
  exact ⟨h.2.2.2.1, h.2.2.1.fill_le⟩

theorem SetRaw.small {es : Array (Int × Value)} {ep : Nat} {t : SetTable} (h : SetRaw w o es ep t) : es.size < 64 := by
  have h1 := h.2.2.1.fill_le
  have h2 := h.2.2.1.mask.le
  have h3 := h.2.2.2.1
  unfold SetTable.fill at h1
  omega

theorem EOk.is {e : Int × Value} (h : EOk e) : (intKind prog w).is (ival e) e.2 = true := by
  obtain ⟨t, h⟩ := h
  rw [h]; simp [intKind, Value.isInt, ival]
theorem EOk.isInt {e : Int × Value} (h : EOk e) (k : Int) : Value.isInt k e.2 = decide (ival e = k) := by
  obtain ⟨t, h⟩ := h
  have : e.2 = .int (ival e) t := by rw [h]; rfl
  rw [this]
  by_cases q : ival e = k
  · simp [Value.isInt, q]
  · simp [Value.isInt, q]
theorem SetRaw.elems {es : Array (Int × Value)} {ep : Nat} {t : SetTable} (h : SetRaw w o es ep t) : ElemsOf (intKind prog w) es.toList := by
  intro e he
  have hk := h.2.2.2.2.2.1 e he
  refine ⟨⟨ival e, hk.is, ?_⟩, ?_⟩
  · obtain ⟨t, q⟩ := hk; rw [q]; rfl
  · obtain ⟨t, q⟩ := hk; rw [q]; rfl

theorem findIdx_ival {l : List (Int × Value)} (h : ∀ e ∈ l, EOk e) (k : Int) : l.findIdx? (fun e => Value.isInt k e.2) = (l.map ival).findIdx? (fun i => decide (i = k)) := by
  induction l with
  | nil => rfl
  | cons e r ih =>
    rw [List.map_cons, List.findIdx?_cons, List.findIdx?_cons, (h e (.head _)).isInt k, ih fun x hx => h x (.tail _ hx)]

/-- the place of k, or none -/
theorem setFind_rule {es : Array (Int × Value)} {ep : Nat} {t : SetTable} {k : Int} {tk : Tok} {Q : Option Nat → Shared → Prop}
    (ho : s.heap.get? a = some o) (h : SetRaw w o es ep t) (hQ : Q ((es.toList.map ival).findIdx? fun i => decide (i = k)) s) :
    wpAny (model prog w) A (setFind a (.int k tk) (hashInt k)) Q E s := by
  have hel : ElemsOf (intKind prog w) es.toList := h.elems
  have hb : es.size < scanBound := by have := h.small; unfold scanBound; omega
  unfold setFind setFindIn
  refine wpAny_bind (wpAny_setState_of ho h.2.1 h.fits ?_)
  dsimp only
  rw [byScan_of (knd := intKind prog w) rfl hb hel]
  simp only [↓reduceIte]
  refine wpAny_bind (wpAny_rule ?_)
  refine wpAny_bind (wpAny_setScan_of (knd := intKind prog w) (k := k) (intKind_is prog w k tk) ho h.2.1 h.fits hel ?_)
  have e : (es.toList.findIdx? fun e => (intKind prog w).is k e.2) = (es.toList.map ival).findIdx? fun i => decide (i = k) := findIdx_ival h.2.2.2.2.2.1 k
  rw [e]
  cases hr : (es.toList.map ival).findIdx? fun i => decide (i = k) with
  | none => rw [hr] at hQ; exact wpAny_pure hQ
  | some j => rw [hr] at hQ; dsimp only; rw [Nat.zero_add]; exact wpAny_pure hQ

theorem storeRaw {es es' : Array (Int × Value)} {ep : Nat} {t t' : SetTable} {Q : Unit → Shared → Prop} (ho : s.heap.get? a = some o) (h : SetRaw w o es ep t)
    (hz : es'.size ≤ sizeLine)
    (hQ : ∀ h', Heap.SameBut a s.heap h' → h'.get? a = some { o with data := .set es' (ep + 1) t' } → Q () { s with heap := h' }) :
    wpAny (model prog w) A (storeSet a es' t') Q E s := by
  refine wpAny_storeSet_of ho h.2.1 (hQ _ (Heap.SameBut.update s.heap a _) ?_) hz
  have := Heap.get?_update_self (Obj.putSet es' t') ho (by rw [putSet_of es' t' h.2.1]; rfl)
  rw [putSet_of es' t' h.2.1] at this
  exact this

theorem SetRaw.put {es es' : Array (Int × Value)} {ep : Nat} {t t' : SetTable} (h : SetRaw w o es ep t) (ht : TabOk t') (hn : t'.place.size = es'.size) (hl : t'.led = true ∨ byText w = true)
    (he : ∀ e ∈ es'.toList, EOk e) (hd : (es'.toList.map ival).Nodup) : SetRaw w { o with data := .set es' (ep + 1) t' } es' (ep + 1) t' :=
  ⟨h.1, rfl, ht, hn, hl, he, hd⟩

theorem small_line {n : Nat} (h : n < 64) : n ≤ sizeLine := by rw [sizeLine_eq]; omega

theorem eok_new (k : Int) (tk : Tok) : EOk (hashInt k, .int k tk) := ⟨tk, rfl⟩

/-- adding: an element that is there, or one more -/
theorem setAddHashed_rule {k : Int} {tk : Tok} {Q : Bool → Shared → Prop}
    (ho : s.heap.get? a = some o) (h : SetIs w o ks) (hroom : ks.length + 1 ≤ 15)
    (hin : k ∈ ks → Q false s)
    (hnew : k ∉ ks → ∀ h' o' ks', Heap.SameBut a s.heap h' → h'.get? a = some o' → SetIs w o' ks' → List.Perm ks' (k :: ks) → Q true { s with heap := h' }) :
    wpAny (model prog w) A (setAddHashed a (.int k tk) (hashInt k)) Q E s := by
  obtain ⟨es, ep, t, h, rfl⟩ := h
  have hel : ElemsOf (intKind prog w) es.toList := h.elems
  have hb : es.size < scanBound := by have := h.small; unfold scanBound; omega
  have hlen : es.size + 1 ≤ 15 := by simpa using hroom
  unfold setAddHashed setAddHashedIn
  refine wpAny_holding (wpAny_bind (wpAny_setState_of ho h.2.1 h.fits ?_))
  dsimp only
  rw [byScan_of (knd := intKind prog w) rfl hb hel]
  simp only [↓reduceIte]
  unfold setAddByScan
  refine wpAny_bind ?_
  refine wpAny_bind (wpAny_rule ?_)
  refine wpAny_bind (wpAny_setScan_of (knd := intKind prog w) (k := k) (intKind_is prog w k tk) ho h.2.1 h.fits hel ?_)
  have e : (es.toList.findIdx? fun e => (intKind prog w).is k e.2) = (es.toList.map ival).findIdx? fun i => decide (i = k) := findIdx_ival h.2.2.2.2.2.1 k
  rw [e]
  cases hr : (es.toList.map ival).findIdx? fun i => decide (i = k) with
  | some j =>
    dsimp only
    obtain ⟨hj, hpj, _⟩ := List.findIdx?_eq_some_iff_getElem.mp hr
    have hk : k ∈ es.toList.map ival := by
      have := of_decide_eq_true hpj
      rw [← this]; exact List.getElem_mem hj
    exact wpAny_pure (wpAny_pure (hin hk))
  | none =>
    dsimp only
    have hk : k ∉ es.toList.map ival := fun hm => by
      have := List.findIdx?_eq_none_iff.mp hr k hm
      simp at this
    obtain ⟨es1, t1, wd, p, eL, hp, rfl, hn1, hm1, hs1, hpl1, hld1, hwd, hfl⟩ := layNew_ok t h.2.2.1 es h.2.2.2.1 (hashInt k) (.int k tk)
    have eL' : layNew t es (hashInt k) (.int k tk) = (SetTable.insertAt es p (hashInt k, .int k tk), t1, wd, false) := eL
    have hperm := SetTable.insertAt_perm es p (hashInt k, Value.int k tk)
    generalize hes1 : SetTable.insertAt es p (hashInt k, Value.int k tk) = es1 at *
    rw [Array.toList_push] at hperm
    have hel1 : ∀ x ∈ es1.toList, EOk x := fun x hx => by
      rcases List.mem_append.mp (hperm.mem_iff.mp hx) with q | q
      · exact h.2.2.2.2.2.1 x q
      · rw [List.mem_singleton.mp q]; exact eok_new k tk
    have hks1 : List.Perm (es1.toList.map ival) (k :: es.toList.map ival) := by
      refine (hperm.map ival).trans ?_
      rw [List.map_append]
      exact List.perm_append_singleton _ _
    have hnd1 : (es1.toList.map ival).Nodup := hks1.nodup_iff.mpr (List.nodup_cons.mpr ⟨hk, h.2.2.2.2.2.2⟩)
    have hz1 : es1.size = es.size + 1 := by have := hperm.length_eq; simpa using this
    have hz1' : es1.size < 64 := by omega
    have hled1 : t1.led = true ∨ byText w = true := by rw [hld1]; exact h.2.2.2.2.1
    rw [eL']
    dsimp only
    refine wpAny_bind (wpAny_pure ?_)
    rw [hpl1]
    simp only [↓reduceIte]
    refine wpAny_bind ?_
    rw [hashByValue_scannable 8 rfl]
    refine wpAny_pure ?_
    simp only [plainKind, ↓reduceIte]
    refine wpAny_bind (storeRaw ho h (small_line hz1') fun h1 hs1' ho1 => ?_)
    by_cases htf : (!wd && t1.tooFull) = true
    · rw [if_pos htf]
      obtain ⟨es2, t2, eR, hp2, ok2, hn2, hld2⟩ := relayAll_ok t1 hpl1 es1 (SetTable.grown es1.size) (by unfold SetTable.grown; rw [if_neg (by omega)]; omega) (by unfold SetTable.grown; rw [if_neg (by omega)]; omega)
      rw [eR]
      dsimp only
      refine wpAny_bind (wpAny_pure ?_)
      have hz2 : es2.size < 64 := by have := hp2.length_eq; simp at this; omega
      refine wpAny_bind (wpAny_storeSet_of (o := { o with data := .set es1 (ep + 1) t1 }) (s := { s with heap := h1 }) ho1 rfl ?_ (small_line hz2))
      refine wpAny_pure ?_
      dsimp only
      refine wpAny_pure ?_
      have hg := Heap.get?_update_self (Obj.putSet es2 t2) ho1 (by rw [putSet_of es2 t2 rfl]; rfl)
      rw [putSet_of es2 t2 rfl] at hg
      refine hnew hk _ _ (es2.toList.map ival) (hs1'.trans (Heap.SameBut.update h1 a _)) hg ⟨es2, _, t2, ⟨h.1, rfl, ok2, hn2, by rw [hld2]; exact hled1, fun x hx => hel1 x (hp2.mem_iff.mp hx), ?_⟩, rfl⟩ ((hp2.map ival).trans hks1)
      exact (hp2.map ival).nodup_iff.mpr hnd1
    · rw [if_neg htf]
      refine wpAny_pure ?_
      dsimp only
      refine wpAny_pure ?_
      have ok1 : TabOk t1 := ⟨by rw [hm1]; exact h.2.2.1.mask, hs1, by
        cases wd with
        | true => exact hwd rfl
        | false =>
          simp only [Bool.not_false, Bool.true_and, SetTable.tooFull, decide_eq_true_eq, ge_iff_le, Nat.not_le] at htf
          exact htf, hpl1⟩
      exact hnew hk _ _ (es1.toList.map ival) hs1' ho1 ⟨es1, _, t1, ⟨h.1, rfl, ok1, hn1, hled1, hel1, hnd1⟩, rfl⟩ hks1
end
end Mine
end
section
open PySem PyProof.Rows
namespace Mine
open SetT
theorem map_eraseIdx {α β : Type} (f : α → β) : ∀ (l : List α) (i : Nat), (l.eraseIdx i).map f = (l.map f).eraseIdx i
  | [], _ => rfl
  | _ :: _, 0 => rfl
  | a :: r, i + 1 => by simp [map_eraseIdx f r i]
section
variable {prog : Program} {w : World} {A : Around} {E : Value → Shared → Prop} {s : Shared} {a b : Addr} {o ob : Obj} {ks js : List Int}

theorem setDiscardHashed_rule {k : Int} {tk : Tok} {Q : Bool → Shared → Prop}
    (ho : s.heap.get? a = some o) (h : SetIs w o ks)
    (hout : k ∉ ks → Q false s)
    (hin : k ∈ ks → ∀ h' o' ks', Heap.SameBut a s.heap h' → h'.get? a = some o' → SetIs w o' ks' → List.Perm ks' (ks.erase k) → Q true { s with heap := h' }) :
    wpAny (model prog w) A (setDiscardHashed a (.int k tk) (hashInt k)) Q E s := by
  obtain ⟨es, ep, t, h, rfl⟩ := h
  unfold setDiscardHashed
  refine wpAny_bind (setFind_rule ho h ?_)
  cases hr : (es.toList.map ival).findIdx? fun i => decide (i = k) with
  | none =>
    dsimp only
    refine wpAny_pure (hout fun hm => ?_)
    have := List.findIdx?_eq_none_iff.mp hr k hm
    simp at this
  | some i =>
    dsimp only
    obtain ⟨hj, hpj, hbefore⟩ := List.findIdx?_eq_some_iff_getElem.mp hr
    have hi : i < es.size := by simpa using hj
    have hki := of_decide_eq_true hpj
    have hk : k ∈ es.toList.map ival := by rw [← hki]; exact List.getElem_mem hj
    obtain ⟨okd, hsz, hld⟩ := drop_ok t h.2.2.1 i (by rw [h.2.2.2.1]; exact hi)
    have hez := eraseAt_size es i hi
    have htl := toList_eraseAt es i hi
    refine wpAny_bind (wpAny_setState_of ho h.2.1 h.fits ?_)
    dsimp only
    refine wpAny_bind (storeRaw ho h (small_line (by have := h.small; omega)) fun h1 hs1 ho1 => ?_)
    refine wpAny_bind (wpAny_point (wpAny_pure ?_))
    have hmap : (SetTable.eraseAt es i).toList.map ival = (es.toList.map ival).eraseIdx i := by rw [htl]; exact (map_eraseIdx ival _ i)
    have herase : (es.toList.map ival).eraseIdx i = (es.toList.map ival).erase k := by
      rw [List.erase_eq_eraseIdx]
      have : List.idxOf? k (es.toList.map ival) = some i := by
        unfold List.idxOf?
        rw [← hr]
        congr 1
      rw [this]
    refine hin hk h1 _ ((SetTable.eraseAt es i).toList.map ival) hs1 ho1 ⟨SetTable.eraseAt es i, _, _, h.put okd ?_ ?_ ?_ ?_, rfl⟩ ?_
    · have := h.2.2.2.1; omega
    · rw [hld]; exact h.2.2.2.2.1
    · intro e he; rw [htl] at he; exact h.2.2.2.2.2.1 e (List.mem_of_mem_eraseIdx he)
    · rw [hmap]; exact h.2.2.2.2.2.2.sublist (List.eraseIdx_sublist _ _)
    · rw [hmap, herase]

abbrev freshSet (w : World) : Obj := { cls := .type "set", dict := none, data := .set #[] 0 (.fresh 0 0 (!byText w)) }
theorem freshRaw : SetRaw w (freshSet w) #[] 0 (.fresh 0 0 (!byText w)) :=
  ⟨⟨rfl, rfl, rfl⟩, rfl, tabOk_fresh _ _ _, rfl, by show (!byText w) = true ∨ _; cases byText w <;> simp, fun e he => by simp at he, by simp⟩
theorem freshIs : SetIs w (freshSet w) [] := ⟨_, _, _, freshRaw, rfl⟩

theorem newSet_rule {Q : Value → Shared → Prop} (h : Q (.ref s.heap.objs.size) { s with heap := s.heap.push (freshSet w) }) :
    wpAny (model prog w) A (newSet (.type "set")) Q E s := by
  unfold newSet setsByText
  refine wpAny_bind (wpAny_bind (wpAny_askSetting (wpAny_pure ?_)))
  dsimp only
  simp only [newObj]
  exact wpAny_bind (wpAny_alloc (wpAny_pure h))

theorem heads_map {es : Array (Int × Value)} : (es.map (·.1)).size = es.size := by simp

/-- room is made in a fresh set -/
theorem setRoomFor_rule {n : Nat} {Q : Unit → Shared → Prop} (ha : s.heap.get? a = some (freshSet w)) (hn : n ≤ 15)
    (hQ : ∀ h1 ep1 t1, Heap.SameBut a s.heap h1 → h1.get? a = some { freshSet w with data := .set #[] ep1 t1 } → SetRaw w { freshSet w with data := .set #[] ep1 t1 } #[] ep1 t1 → t1.fill = 0 → t1.led = !byText w → n * 5 < t1.mask * 3 → Q () { s with heap := h1 }) :
    wpAny (model prog w) A (setRoomFor a n) Q E s := by
  have hf := freshRaw (w := w)
  unfold setRoomFor
  refine wpAny_bind (wpAny_setState_of ha hf.2.1 hf.fits ?_)
  dsimp only
  by_cases hr : (0 + n) * 5 ≥ 7 * 3
  · have e : SetTable.roomFor (.fresh 0 0 (!byText w)) n = some ((0 + n) * 2) := by
      unfold SetTable.roomFor
      exact if_pos hr
    rw [e]
    dsimp only
    unfold setRelay
    refine wpAny_bind (wpAny_setState_of ha hf.2.1 hf.fits ?_)
    dsimp only
    obtain ⟨t1, order, er, ok1, sz1, ld1, pm1, hm1⟩ := relaid_ok (.fresh 0 0 (!byText w)) rfl ((#[] : Array (Int × Value)).map (·.1)) ((0 + n) * 2) (by omega) (by simp)
    obtain ⟨hmk, hab⟩ := sizeAbove_masks ((0 + n) * 2) (by omega)
    have hle := hmk.le
    have hln : ¬ SetTable.sizeAbove ((0 + n) * 2) > sizeLine := by rw [sizeLine_eq]; omega
    rw [if_neg hln]
    refine wpAny_bind ?_
    rw [er]
    wp_delta
    have ho : order.filterMap ((#[] : Array (Int × Value))[·]?) = #[] := by
      have := pick_size (#[] : Array (Int × Value)) order (by simpa using pm1)
      simpa using this
    dsimp only
    rw [ho]
    simp only [bne_self_eq_false, Bool.false_eq_true, if_false]
    refine wpAny_bind (wpAny_pure (wpAny_pure ?_))
    dsimp only
    have hfill : t1.fill = 0 := by
      have hl : SetTable.laid (SetTable.sizeAbove ((0 + n) * 2) - 1) 0 (SetTable.movedTo (.fresh 0 0 (!byText w)) (SetTable.sizeAbove ((0 + n) * 2) - 1)) (!byText w) true #[] = some (t1, order) := by
        have e0 : ((#[] : Array (Int × Value)).map (·.1)) = #[] := by simp
        rw [e0] at er
        exact er
      have hp : t1.place.size = 0 := by simpa using sz1
      unfold SetTable.laid at hl
      cases hq : SetTable.layClean (SetTable.sizeAbove ((0 + n) * 2) - 1) #[] with
      | none => rw [hq] at hl; cases hl
      | some ow =>
        rw [hq] at hl
        simp only [Option.bind_eq_bind, Option.bind_some] at hl
        have h1 := (Prod.mk.inj (Option.some.inj hl)).1
        unfold SetTable.fill
        rw [hp, ← h1]
        rfl
    refine storeRaw ha hf (by simp) fun h1 hs1 ha1 => ?_
    exact hQ h1 1 t1 hs1 ha1 ⟨⟨rfl, rfl, rfl⟩, rfl, ok1, by simpa using sz1, by rw [ld1]; show (!byText w) = true ∨ _; cases byText w <;> simp, fun e he => by simp at he, by simp⟩ hfill ld1 (by omega)
  · have e : SetTable.roomFor (.fresh 0 0 (!byText w)) n = none := by
      unfold SetTable.roomFor
      exact if_neg hr
    rw [e]
    exact wpAny_pure (hQ s.heap 0 _ (Heap.SameBut.refl a s.heap) ha hf rfl rfl (by show n * 5 < 7 * 3; omega))

theorem setMerge_rule {each : Sem Unit} {Q : Unit → Shared → Prop}
    (hab : a ≠ b) (ha : s.heap.get? a = some (freshSet w)) (hb : s.heap.get? b = some ob) (h : SetIs w ob ks) (hroom : ks.length ≤ 15)
    (hQ : ∀ h' o' ks', Heap.SameBut a s.heap h' → h'.get? a = some o' → SetIs w o' ks' → List.Perm ks' ks → Q () { s with heap := h' }) :
    wpAny (model prog w) A (setMerge a b each) Q E s := by
  obtain ⟨es, ep, t, h, rfl⟩ := h
  have hsz : es.size ≤ 15 := by simpa using hroom
  have hz : es.size ≤ sizeLine := small_line (by omega)
  unfold setMerge
  have hne : (a == b) = false := beq_eq_false_iff_ne.mpr hab
  rw [hne]
  simp only [Bool.false_eq_true, if_false]
  refine wpAny_bind (wpAny_setState_of hb h.2.1 h.fits ?_)
  dsimp only
  by_cases hem : es.isEmpty = true
  · rw [hem]
    simp only [if_true]
    have e0 : es = #[] := by simpa using hem
    subst e0
    exact wpAny_pure (hQ s.heap _ [] (Heap.SameBut.refl a s.heap) ha freshIs (List.Perm.refl _))
  · simp only [hem]
    simp only [Bool.false_eq_true, if_false]
    refine wpAny_bind (setRoomFor_rule ha hsz fun h1 ep1 t1 hs1 ha1 raw1 hfill1 hld1 hr1 => ?_)
    refine wpAny_bind (wpAny_setState_of (s := { s with heap := h1 }) ha1 raw1.2.1 raw1.fits ?_)
    dsimp only
    have ok1 := raw1.2.2.1
    unfold SetTable.road
    rw [hfill1]
    simp only [bne_self_eq_false, Bool.false_eq_true, if_false]
    by_cases hsame : (t1.mask == t.mask && t.dummies.isEmpty) = true
    · rw [if_pos hsame]
      dsimp only
      refine storeRaw (s := { s with heap := h1 }) ha1 raw1 hz fun h2 hs2 ha2 => ?_
      refine hQ h2 _ (es.toList.map ival) (hs1.trans hs2) ha2 ⟨es, _, _, ⟨⟨rfl, rfl, rfl⟩, rfl, ⟨h.2.2.1.mask, h.2.2.1.sorted, h.2.2.1.room, ?_⟩, h.2.2.2.1, ?_, h.2.2.2.2.2.1, h.2.2.2.2.2.2⟩, rfl⟩ (List.Perm.refl _)
      · show (t1.plain && t.plain) = true
        rw [ok1.plain, h.2.2.1.plain]; rfl
      · show (t1.led && t.led) = true ∨ _
        rw [hld1]
        rcases h.2.2.2.2.1 with q | q
        · rw [q]; cases byText w <;> simp
        · exact .inr q
    · rw [if_neg hsame]
      dsimp only
      rw [ok1.plain, h.2.2.1.plain]
      obtain ⟨t2, order, el, ok2, sz2, ld2, pm2⟩ := laid_ok t1.mask t1.finger t1.moves (t1.led && t.led) (es.map (·.1)) ok1.mask (by rw [heads_map]; exact hr1)
      rw [heads_map] at sz2 pm2
      have hz2 := pick_size es order pm2
      have hp2 := pick_perm es order pm2
      simp only [Bool.and_self, el]
      refine wpAny_bind ?_
      wp_delta
      dsimp only
      rw [hz2]
      simp only [bne_self_eq_false, Bool.false_eq_true, if_false]
      refine wpAny_bind (wpAny_pure (wpAny_pure ?_))
      dsimp only
      refine storeRaw (s := { s with heap := h1 }) ha1 raw1 (by rw [hz2]; exact hz) fun h2 hs2 ha2 => ?_
      refine hQ h2 _ ((order.filterMap (es[·]?)).toList.map ival) (hs1.trans hs2) ha2 ⟨_, _, _, ⟨⟨rfl, rfl, rfl⟩, rfl, ok2, by rw [hz2]; exact sz2, ?_, fun e he => h.2.2.2.2.2.1 e (hp2.mem_iff.mp he), (hp2.map ival).nodup_iff.mpr h.2.2.2.2.2.2⟩, rfl⟩ (hp2.map ival)
      rw [ld2, hld1]
      rcases h.2.2.2.2.1 with q | q
      · rw [q]; cases byText w <;> simp
      · exact .inr q
end
end Mine
end
section
open PySem PyProof.Rows
namespace Mine
open SetT

theorem cons_eraseIdx_perm {α : Type} : ∀ (l : List α) (i : Nat) (h : i < l.length), List.Perm (l[i] :: l.eraseIdx i) l
  | a :: r, 0, _ => .refl _
  | a :: r, i + 1, h => by
    have := cons_eraseIdx_perm r i (by simpa using h)
    simp only [List.getElem_cons_succ, List.eraseIdx_cons_succ]
    exact (List.Perm.swap a _ _).trans (List.Perm.cons a this)

theorem pickOrder_go {α : Type} (next : Nat → Nat) : ∀ (fuel k : Nat) (left : List α) (out : Array α), left.length ≤ fuel →
    List.Perm (pickOrder.go next fuel k left out).toList (out.toList ++ left) := by
  intro fuel
  induction fuel with
  | zero =>
    intro k left out h
    have : left = [] := List.eq_nil_of_length_eq_zero (by omega)
    subst this
    unfold pickOrder.go
    rw [List.append_nil]
  | succ fuel ih =>
    intro k left out h
    unfold pickOrder.go
    cases hq : left[next k % left.length]? with
    | none =>
      have hl : left = [] := by
        rcases Nat.eq_zero_or_pos left.length with q | q
        · exact List.eq_nil_of_length_eq_zero q
        · have := Nat.mod_lt (next k) q
          rw [List.getElem?_eq_getElem this] at hq; cases hq
      subst hl
      simp
    | some x =>
      dsimp only
      have hlt : next k % left.length < left.length := by
        rcases Nat.lt_or_ge (next k % left.length) left.length with q | q
        · exact q
        · rw [List.getElem?_eq_none q] at hq; cases hq
      have hx : left[next k % left.length] = x := by rw [List.getElem?_eq_getElem hlt] at hq; exact Option.some.inj hq
      refine (ih (k + 1) _ _ (by rw [List.length_eraseIdx, if_pos hlt]; omega)).trans ?_
      rw [Array.toList_push, List.append_assoc]
      refine List.Perm.append_left _ ?_
      rw [← hx]
      show List.Perm (left[next k % left.length] :: left.eraseIdx (next k % left.length)) left
      exact cons_eraseIdx_perm left _ hlt
theorem pickOrder_perm {α : Type} (next : Nat → Nat) (xs : Array α) : List.Perm (pickOrder next xs).toList xs.toList := by
  unfold pickOrder
  have := pickOrder_go next xs.size 0 xs.toList #[] (by simp)
  simpa using this

section
variable {prog : Program} {w : World} {A : Around} {E : Value → Shared → Prop} {s : Shared} {a b : Addr} {o ob : Obj} {ks js : List Int}

/-- the order of a walk -/
def walkOf (w : World) (a : Addr) (ep : Nat) (es : Array (Int × Value)) : Array (Int × Value) := if byText w then pickOrder (w.params.setOrder a ep) es else es
theorem walkOf_perm (w : World) (a : Addr) (ep : Nat) (es : Array (Int × Value)) : List.Perm (walkOf w a ep es).toList es.toList := by
  unfold walkOf; split
  · exact pickOrder_perm _ _
  · exact .refl _

theorem setsByText_rule {Q : Bool → Shared → Prop} (h : Q (byText w) s) : wpAny (model prog w) A setsByText Q E s := by
  unfold setsByText
  exact wpAny_bind (wpAny_askSetting (wpAny_pure h))

theorem setWalk_rule {es : Array (Int × Value)} {ep : Nat} {t : SetTable} {Q : Array (Int × Value) → Shared → Prop}
    (ho : s.heap.get? a = some o) (h : SetRaw w o es ep t) (hQ : Q (walkOf w a ep es) s) : wpAny (model prog w) A (setWalk a) Q E s := by
  unfold walkOf at hQ
  unfold setWalk
  refine wpAny_bind (wpAny_setState_of ho h.2.1 h.fits ?_)
  dsimp only
  refine wpAny_bind (setsByText_rule ?_)
  by_cases hb : byText w = true
  · rw [hb] at hQ ⊢
    simp only [if_true] at hQ ⊢
    refine wpAny_bind (wpAny_askSetting (wpAny_pure ?_))
    exact hQ
  · rw [Bool.not_eq_true] at hb
    rw [hb] at hQ ⊢
    simp only [Bool.false_eq_true, if_false] at hQ ⊢
    have hl : t.led = true := h.2.2.2.2.1.resolve_right (by rw [hb]; exact Bool.false_ne_true)
    refine wpAny_ite ?_
    have hdr : ¬ (PySem.SetTable.plain t = false) := by rw [h.2.2.1.plain]; exact Bool.noConfusion
    split
    · rename_i hd
      exfalso
      have : (!t.plain && es.size > 1) = true := hd
      rw [h.2.2.1.plain] at this
      simp at this
    · refine wpAny_bind ?_
      wp_delta
      rw [hl]
      simp only [Bool.not_true, Bool.false_and, Bool.false_eq_true, if_false]
      exact wpAny_pure (wpAny_pure hQ)

theorem setWalkUnseen_rule {others : List Addr} {filled : Option Addr} {es : Array (Int × Value)} {ep : Nat} {t : SetTable} {Q : Array (Int × Value) → Shared → Prop}
    (ho : s.heap.get? a = some o) (h : SetRaw w o es ep t) (hQ : Q (walkOf w a ep es) s) : wpAny (model prog w) A (setWalkUnseen a others filled) Q E s := by
  unfold setWalkUnseen
  refine wpAny_bind (wpAny_setState_of ho h.2.1 h.fits ?_)
  dsimp only
  refine wpAny_bind (setsByText_rule ?_)
  have hc : (byText w || (t.led && t.plain) || decide (es.size ≤ 1)) = true := by
    rw [h.2.2.1.plain]
    rcases h.2.2.2.2.1 with q | q
    · rw [q]; simp
    · rw [q]; simp
  rw [if_pos hc]
  exact setWalk_rule ho h hQ

theorem isAnySet_rule {Q : Bool → Shared → Prop} (ho : s.heap.get? a = some o) (hc : o.cls = .type "set") (h : Q true s) : wpAny (model prog w) A (Builtin.Frozenset.isAnySet (.ref a)) Q E s := by
  unfold Builtin.Frozenset.isAnySet orM
  have hT : s.TypeIs (.ref a) "set" := ⟨o, ho, hc⟩
  exact wpAny_bind (wpAny_isInstance hT sub_set_self (wpAny_pure h))

theorem baseOf_rule {Q : Value → Shared → Prop} (ho : s.heap.get? a = some o) (hc : o.cls = .type "set") (h : Q (.type "set") s) : wpAny (model prog w) A (Builtin.Frozenset.baseOf a) Q E s := by
  unfold Builtin.Frozenset.baseOf
  have hT : s.TypeIs (.ref a) "set" := ⟨o, ho, hc⟩
  exact wpAny_bind (wpAny_isInstance hT sub_set_self (wpAny_pure h))

theorem unchanged_rule {nm : String} {es : Array (Int × Value)} {ep : Nat} {t : SetTable} {Q : Unit → Shared → Prop} (ho : s.heap.get? a = some o) (h : SetRaw w o es ep t) (hQ : Q () s) :
    wpAny (model prog w) A (Builtin.Frozenset.unchanged nm a ep) Q E s := by
  unfold Builtin.Frozenset.unchanged
  refine wpAny_bind (wpAny_setEpoch_of ho h.2.1 h.fits ?_)
  rw [if_neg (by simp)]
  exact wpAny_pure hQ

theorem merge_rule {nm : String} {Q : Unit → Shared → Prop}
    (hab : a ≠ b) (ha : s.heap.get? a = some (freshSet w)) (hb : s.heap.get? b = some ob) (h : SetIs w ob ks) (hroom : ks.length ≤ 15)
    (hQ : ∀ h' o' ks', Heap.SameBut a s.heap h' → h'.get? a = some o' → SetIs w o' ks' → List.Perm ks' ks → Q () { s with heap := h' }) :
    wpAny (model prog w) A (Builtin.Frozenset.merge nm a b) Q E s := by
  unfold Builtin.Frozenset.merge
  obtain ⟨es, ep, t, hr, e⟩ := id h
  refine wpAny_bind (wpAny_setEpoch_of hb hr.2.1 hr.fits ?_)
  exact setMerge_rule hab ha hb h hroom hQ

theorem newFrom_rule {nm : String} {Q : Value → Shared → Prop}
    (hb : s.heap.get? b = some ob) (h : SetIs w ob ks) (hroom : ks.length ≤ 15)
    (hQ : ∀ h' o' ks', Heap.SameBut s.heap.objs.size (s.heap.push (freshSet w)) h' → h'.get? s.heap.objs.size = some o' → SetIs w o' ks' → List.Perm ks' ks → Q (.ref s.heap.objs.size) { s with heap := h' }) :
    wpAny (model prog w) A (Builtin.Frozenset.newFrom nm (.type "set") (.ref b)) Q E s := by
  unfold Builtin.Frozenset.newFrom
  have hcb : ob.cls = .type "set" := by obtain ⟨es, ep, t, hr, e⟩ := h; exact hr.1.1
  have hb' : (s.heap.push (freshSet w)).get? b = some ob := Heap.get?_push_of_some _ hb
  have ha' : (s.heap.push (freshSet w)).get? s.heap.objs.size = some (freshSet w) := Heap.get?_push_size _ rfl
  have hne : s.heap.objs.size ≠ b := Nat.ne_of_gt (Heap.lt_size hb)
  refine wpAny_bind (newSet_rule ?_)
  unfold Builtin.Frozenset.addrOf
  refine wpAny_bind (wpAny_pure ?_)
  refine wpAny_bind (wpAny_holding ?_)
  unfold Builtin.Frozenset.updateFrom
  refine wpAny_bind (isAnySet_rule (s := { s with heap := s.heap.push (freshSet w) }) hb' hcb ?_)
  simp only [if_true]
  unfold Builtin.Frozenset.addrOf
  refine wpAny_bind (wpAny_pure ?_)
  refine merge_rule (s := { s with heap := s.heap.push (freshSet w) }) hne ha' hb' h hroom fun h1 o1 ks1 hs1 ho1 hi1 hp1 => ?_
  exact wpAny_pure (hQ h1 o1 ks1 hs1 ho1 hi1 hp1)
end
end Mine
end
section
open PySem PyProof.Rows
namespace Mine
open SetT
section
variable {prog : Program} {w : World} {A : Around} {E : Value → Shared → Prop} {s : Shared} {a b r : Addr} {o ob : Obj} {ks js : List Int}

theorem length_le_of_mem {l l' : List Int} (hn : l.Nodup) (h : ∀ i, i ∈ l → i ∈ l') : l.length ≤ l'.length := hn.length_le_of_subset h

/-- the loop of ^= : what of the walk is done has been turned in the set -/
theorem symUpdate_rule {nm : String} {Q : Unit → Shared → Prop}
    (hra : r ≠ a) (hr : s.heap.get? r = some ob) (hj : SetIs w ob js) (ha : s.heap.get? a = some o) (h : SetIs w o ks) (hroom : js.length + ks.length ≤ 14)
    (hQ : ∀ h' o' cur, Heap.SameBut r s.heap h' → h'.get? r = some o' → SetIs w o' cur → (∀ i, i ∈ cur ↔ ¬ (i ∈ js ↔ i ∈ ks)) → Q () { s with heap := h' }) :
    wpAny (model prog w) A (Builtin.Frozenset.symmetricDifferenceUpdate nm r (.ref a)) Q E s := by
  obtain ⟨es, ep, t, h, rfl⟩ := h
  have hca : o.cls = .type "set" := h.1.1
  unfold Builtin.Frozenset.symmetricDifferenceUpdate
  have hne : (Value.ref a == Value.ref r) = false := beq_eq_false_iff_ne.mpr (fun e => hra (by injection e with e; exact e.symm))
  rw [hne]
  simp only [Bool.false_eq_true, if_false]
  refine wpAny_bind (wpAny_typeOf ⟨o, ha, hca⟩ ?_)
  have hnd : (Value.type "set" == Value.type "dict") = false := by decide
  rw [hnd]
  simp only [Bool.false_eq_true, if_false]
  refine wpAny_bind (isAnySet_rule ha hca ?_)
  simp only [if_true]
  refine wpAny_bind (wpAny_pure ?_)
  unfold Builtin.Frozenset.addrOf
  refine wpAny_bind (wpAny_pure ?_)
  refine wpAny_bind (wpAny_setEpoch_of ha h.2.1 h.fits ?_)
  refine wpAny_holding (wpAny_bind (setWalkUnseen_rule ha h ?_))
  have hp := walkOf_perm w a ep es
  have heok : ∀ e ∈ (walkOf w a ep es).toList, EOk e := fun e he => h.2.2.2.2.2.1 e (hp.mem_iff.mp he)
  generalize walkOf w a ep es = W at hp heok ⊢
  refine wpAny_bind (wpAny_forIn_array' (β := PUnit) _ (fun rest _ s' => ∃ h' o' cur done, s' = { s with heap := h' } ∧ Heap.SameBut r s.heap h' ∧ h'.get? r = some o' ∧ SetIs w o' cur ∧ W.toList = done ++ rest ∧
      (∀ i, i ∈ cur ↔ ¬ (i ∈ js ↔ i ∈ done.map ival))) _ ?_ ?_ W () ?_)
  · rintro e rest _ s' ⟨h', o', cur, done, rfl, hs', ho', hcur, hW, hm⟩
    have hee : EOk e := heok e (by rw [hW]; exact List.mem_append_right _ (.head _))
    obtain ⟨tk, hetk⟩ := hee
    have hnodup : ((done ++ e :: rest).map ival).Nodup := by rw [← hW]; exact (hp.map ival).nodup_iff.mpr h.2.2.2.2.2.2
    have hnotdone : ival e ∉ done.map ival := by
      rw [List.map_append, List.map_cons] at hnodup
      have := (List.nodup_append.mp hnodup).2.2
      intro hd
      exact this _ hd _ (.head _) rfl
    have hdl : done.length + 1 ≤ es.size := by
      have := hp.length_eq
      rw [hW, List.length_append, List.length_cons] at this
      have h2 : es.toList.length = es.size := by simp
      omega
    have hclen : cur.length ≤ js.length + done.length := by
      have := length_le_of_mem (l' := js ++ done.map ival) hcur.nodup (fun i hi => by
        have := (hm i).mp hi
        rw [List.mem_append]
        by_cases q : i ∈ js
        · exact .inl q
        · refine .inr ?_
          false_or_by_contra
          rename_i q'
          exact this ⟨fun x => absurd x q, fun x => absurd x q'⟩)
      simpa using this
    have hkl : (es.toList.map ival).length = es.size := by simp
    have hmem : ∀ i, i ∈ (done ++ [e]).map ival ↔ i ∈ done.map ival ∨ i = ival e := fun i => by simp [List.map_append]
    have ha' : h'.get? a = some o := (hs'.2 a (Ne.symm hra)).trans ha
    have e1 : e.1 = hashInt (ival e) := by rw [hetk]; rfl
    have e2 : e.2 = .int (ival e) tk := by rw [hetk]; rfl
    rw [e1, e2]
    have fin : ∀ (P : ForInStep PUnit → Shared → Prop) (h'' : Heap) o'' cur', Heap.SameBut r h' h'' → h''.get? r = some o'' → SetIs w o'' cur' → (∀ i, i ∈ cur' ↔ ¬ (i ∈ js ↔ i ∈ (done ++ [e]).map ival)) →
        ((∃ h' o' cur done, ({ s with heap := h'' } : Shared) = { s with heap := h' } ∧ Heap.SameBut r s.heap h' ∧ h'.get? r = some o' ∧ SetIs w o' cur ∧ W.toList = done ++ rest ∧ (∀ i, i ∈ cur ↔ ¬ (i ∈ js ↔ i ∈ done.map ival))) → P (.yield PUnit.unit) { s with heap := h'' }) →
        wpAny (model prog w) A (do Builtin.Frozenset.unchanged nm a ep; pure (ForInStep.yield PUnit.unit)) P E { s with heap := h'' } := by
      intro P h'' o'' cur' hs'' ho'' hc'' hm'' k
      have ha'' : h''.get? a = some o := (hs''.2 a (Ne.symm hra)).trans ha'
      refine wpAny_bind (unchanged_rule (s := { s with heap := h'' }) ha'' h (wpAny_pure (k ?_)))
      exact ⟨h'', o'', cur', done ++ [e], rfl, hs'.trans hs'', ho'', hc'', by rw [hW]; simp, hm''⟩
    refine wpAny_bind (wpAny_holding (wpAny_bind ?_))
    refine setDiscardHashed_rule (s := { s with heap := h' }) ho' hcur (fun hno => ?_) fun hyes h1 o1 cur1 hs1 ho1 hi1 hp1 => ?_
    · simp only [Bool.not_false, if_true]
      refine wpAny_bind (setAddHashed_rule (s := { s with heap := h' }) ho' hcur (by omega) (fun hin => absurd hin hno) fun _ h1 o1 cur1 hs1 ho1 hi1 hp1 => wpAny_pure ?_)
      refine fin _ h1 o1 cur1 hs1 ho1 hi1 (fun i => ?_) id
      rw [hp1.mem_iff, List.mem_cons, hmem i, hm i]
      have hq := mt (hm (ival e)).mpr hno
      have hje : ival e ∉ js := fun hx => hq (fun hiff => hnotdone (hiff.mp hx))
      by_cases hie : i = ival e
      · subst hie
        constructor
        · intro _ hiff; exact hje (hiff.mpr (.inr rfl))
        · intro _; exact .inl rfl
      · simp [hie]
    · simp only [Bool.not_true, Bool.false_eq_true, if_false]
      refine wpAny_pure ?_
      refine fin _ h1 o1 cur1 hs1 ho1 hi1 (fun i => ?_) id
      rw [hp1.mem_iff, hcur.nodup.mem_erase_iff, hmem i, hm i]
      have hje : ival e ∈ js := by
        have := (hm (ival e)).mp hyes
        false_or_by_contra
        rename_i q
        exact this ⟨fun x => absurd x q, fun x => absurd x hnotdone⟩
      by_cases hie : i = ival e
      · subst hie
        constructor
        · intro hx; exact absurd rfl hx.1
        · intro hx; exact absurd ⟨fun _ => .inr rfl, fun _ => hje⟩ hx
      · simp [hie]
  · rintro _ s' ⟨h', o', cur, done, rfl, hs', ho', hcur, hW, hm⟩
    rw [List.append_nil] at hW
    refine wpAny_pure (hQ h' o' cur hs' ho' hcur fun i => ?_)
    rw [hm i]
    have : i ∈ done.map ival ↔ i ∈ es.toList.map ival := by rw [← hW]; exact (hp.map ival).mem_iff
    rw [this]
  · exact ⟨s.heap, ob, js, [], rfl, Heap.SameBut.refl r s.heap, hr, hj, rfl, fun i => by simp⟩
end
end Mine
end
section
open PySem PyProof.Rows
namespace Mine
open SetT
section
variable {prog : Program} {w : World} {A : Around} {E : Value → Shared → Prop} {s : Shared} {a b r : Addr} {o ob : Obj} {ks js : List Int}

/-- the loop of &: walked a, asked b, filled r -/
theorem interLoop_rule {nm : String} {Q : Unit → Shared → Prop} {es : Array (Int × Value)} {ep : Nat} {t : SetTable} {es2 : Array (Int × Value)} {ep2 : Nat} {t2 : SetTable}
    (hra : r ≠ a) (hrb : r ≠ b) (hr : s.heap.get? r = some (freshSet w)) (ha : s.heap.get? a = some o) (h : SetRaw w o es ep t) (hb : s.heap.get? b = some ob) (hj : SetRaw w ob es2 ep2 t2) (hroom : es.size ≤ 14)
    (hQ : ∀ h' o' cur, Heap.SameBut r s.heap h' → h'.get? r = some o' → SetIs w o' cur → (∀ i, i ∈ cur ↔ (i ∈ es.toList.map ival ∧ i ∈ es2.toList.map ival)) → Q () { s with heap := h' }) :
    wpAny (model prog w) A (do
      for (h, x) in ← setWalkUnseen a [b, r] (some r) do
        holding [x] do
          if (← setFind b x h).isSome then
            let _ ← setAddHashed r x h
        Builtin.Frozenset.unchanged nm a ep) Q E s := by
  refine wpAny_bind (setWalkUnseen_rule ha h ?_)
  have hp := walkOf_perm w a ep es
  have heok : ∀ e ∈ (walkOf w a ep es).toList, EOk e := fun e he => h.2.2.2.2.2.1 e (hp.mem_iff.mp he)
  generalize walkOf w a ep es = W at hp heok ⊢
  refine wpAny_bind (wpAny_forIn_array' (β := PUnit) _ (fun rest _ s' => ∃ h' o' cur done, s' = { s with heap := h' } ∧ Heap.SameBut r s.heap h' ∧ h'.get? r = some o' ∧ SetIs w o' cur ∧ W.toList = done ++ rest ∧
      (∀ i, i ∈ cur ↔ (i ∈ done.map ival ∧ i ∈ es2.toList.map ival))) _ ?_ ?_ W () ?_)
  · rintro e rest _ s' ⟨h', o', cur, done, rfl, hs', ho', hcur, hW, hm⟩
    have hee : EOk e := heok e (by rw [hW]; exact List.mem_append_right _ (.head _))
    obtain ⟨tk, hetk⟩ := hee
    obtain ⟨k, rfl⟩ : ∃ k, e = (hashInt k, Value.int k tk) := ⟨ival e, hetk⟩
    clear hetk
    have hdl : done.length + 1 ≤ es.size := by
      have := hp.length_eq
      rw [hW, List.length_append, List.length_cons] at this
      have h2 : es.toList.length = es.size := by simp
      omega
    have hclen : cur.length ≤ done.length := by
      have := length_le_of_mem (l' := done.map ival) hcur.nodup (fun i hi => ((hm i).mp hi).1)
      simpa using this
    have hmem : ∀ i, i ∈ (done ++ [(hashInt k, Value.int k tk)]).map ival ↔ i ∈ done.map ival ∨ i = k := fun i => by simp [List.map_append, ival]
    have ha' : h'.get? a = some o := (hs'.2 a (Ne.symm hra)).trans ha
    have hb' : h'.get? b = some ob := (hs'.2 b (Ne.symm hrb)).trans hb
    dsimp only
    have fin : ∀ (P : ForInStep PUnit → Shared → Prop) (h'' : Heap) o'' cur', Heap.SameBut r h' h'' → h''.get? r = some o'' → SetIs w o'' cur' → (∀ i, i ∈ cur' ↔ (i ∈ (done ++ [(hashInt k, Value.int k tk)]).map ival ∧ i ∈ es2.toList.map ival)) →
        ((∃ h' o' cur done, ({ s with heap := h'' } : Shared) = { s with heap := h' } ∧ Heap.SameBut r s.heap h' ∧ h'.get? r = some o' ∧ SetIs w o' cur ∧ W.toList = done ++ rest ∧ (∀ i, i ∈ cur ↔ (i ∈ done.map ival ∧ i ∈ es2.toList.map ival))) → P (.yield PUnit.unit) { s with heap := h'' }) →
        wpAny (model prog w) A (do Builtin.Frozenset.unchanged nm a ep; pure (ForInStep.yield PUnit.unit)) P E { s with heap := h'' } := by
      intro P h'' o'' cur' hs'' ho'' hc'' hm'' kk
      have ha'' : h''.get? a = some o := (hs''.2 a (Ne.symm hra)).trans ha'
      refine wpAny_bind (unchanged_rule (s := { s with heap := h'' }) ha'' h (wpAny_pure (kk ?_)))
      exact ⟨h'', o'', cur', done ++ [(hashInt k, Value.int k tk)], rfl, hs'.trans hs'', ho'', hc'', by rw [hW]; simp, hm''⟩
    refine wpAny_bind (wpAny_holding (wpAny_bind ?_))
    refine setFind_rule (s := { s with heap := h' }) hb' hj ?_
    cases hf : (es2.toList.map ival).findIdx? fun i => decide (i = k) with
    | none =>
      have hno : k ∉ es2.toList.map ival := fun hx => by
        have := List.findIdx?_eq_none_iff.mp hf _ hx
        simp at this
      simp only [Option.isSome_none, Bool.false_eq_true, if_false]
      refine wpAny_pure ?_
      refine fin _ h' o' cur (Heap.SameBut.refl r h') ho' hcur (fun i => ?_) id
      rw [hm i, hmem i]
      constructor
      · rintro ⟨q1, q2⟩; exact ⟨.inl q1, q2⟩
      · rintro ⟨q1 | q1, q2⟩
        · exact ⟨q1, q2⟩
        · rw [q1] at q2; exact absurd q2 hno
    | some j =>
      have hyes : k ∈ es2.toList.map ival := by
        obtain ⟨hj1, hpj, _⟩ := List.findIdx?_eq_some_iff_getElem.mp hf
        have := of_decide_eq_true hpj
        rw [← this]; exact List.getElem_mem hj1
      simp only [Option.isSome_some, if_true]
      refine wpAny_bind (setAddHashed_rule (s := { s with heap := h' }) ho' hcur (by omega) (fun hin => wpAny_pure ?_) fun hnin h1 o1 cur1 hs1 ho1 hi1 hp1 => wpAny_pure ?_)
      · refine fin _ h' o' cur (Heap.SameBut.refl r h') ho' hcur (fun i => ?_) id
        rw [hm i, hmem i]
        constructor
        · rintro ⟨q1, q2⟩; exact ⟨.inl q1, q2⟩
        · rintro ⟨q1 | q1, q2⟩
          · exact ⟨q1, q2⟩
          · rw [q1]; exact (hm _).mp hin
      · refine fin _ h1 o1 cur1 hs1 ho1 hi1 (fun i => ?_) id
        rw [hp1.mem_iff, List.mem_cons, hmem i, hm i]
        constructor
        · rintro (q | ⟨q1, q2⟩)
          · rw [q]; exact ⟨.inr rfl, hyes⟩
          · exact ⟨.inl q1, q2⟩
        · rintro ⟨q1 | q1, q2⟩
          · exact .inr ⟨q1, q2⟩
          · exact .inl q1
  · rintro _ s' ⟨h', o', cur, done, rfl, hs', ho', hcur, hW, hm⟩
    rw [List.append_nil] at hW
    refine wpAny_pure (hQ h' o' cur hs' ho' hcur fun i => ?_)
    rw [hm i]
    have : i ∈ done.map ival ↔ i ∈ es.toList.map ival := by rw [← hW]; exact (hp.map ival).mem_iff
    rw [this]
  · exact ⟨s.heap, freshSet w, [], [], rfl, Heap.SameBut.refl r s.heap, hr, freshIs, rfl, fun i => by simp⟩

theorem entry_set_xor : entryFor table "set.__xor__" = some Builtin.«frozenset.__xor__» :=
  entryFor_alias (id' := "frozenset.__xor__") (by kernel_rfl) rfl (by decide +kernel) (by kernel_rfl)
theorem entry_set_and : entryFor table "set.__and__" = some Builtin.«frozenset.__and__» :=
  entryFor_alias (id' := "frozenset.__and__") (by kernel_rfl) rfl (by decide +kernel) (by kernel_rfl)

/-- a ^ b of two sets of ints -/
theorem setXor_rule {Q : Value → Shared → Prop} (ha : s.heap.get? a = some o) (h : SetIs w o ks) (hb : s.heap.get? b = some ob) (hj : SetIs w ob js) (hroom : js.length + ks.length ≤ 14)
    (hQ : ∀ h' o' cur, (∀ c oc, s.heap.get? c = some oc → h'.get? c = some oc) → h'.get? s.heap.objs.size = some o' → SetIs w o' cur → (∀ i, i ∈ cur ↔ ¬ (i ∈ ks ↔ i ∈ js)) → Q (.ref s.heap.objs.size) { s with heap := h' }) :
    wpAny (model prog w) A (binaryOp .BitXor (.ref a) (.ref b)) Q E s := by
  have hca : o.cls = .type "set" := by obtain ⟨_, _, _, hr, _⟩ := h; exact hr.1.1
  have hcb : ob.cls = .type "set" := by obtain ⟨_, _, _, hr, _⟩ := hj; exact hr.1.1
  have hTa : s.TypeIs (.ref a) "set" := ⟨o, ha, hca⟩
  have hTb : s.TypeIs (.ref b) "set" := ⟨ob, hb, hcb⟩
  refine wpAny_binaryOp_same (op := .BitXor) (T := "set") hTa hTb F.fills_set_xor F.slot_set_xor (wpAny_call_entry F.slot_set_xor hTa entry_set_xor ?_ (F.args_set_xor_2 _ _))
  unfold Builtin.«frozenset.__xor__»
  wp_delta
  refine wpAny_bind (m := Builtin.Frozenset.slot1 "__xor__" _) ?_
  unfold Builtin.Frozenset.slot1
  refine wpAny_bind (m := slotArgs "__xor__" 1 _) (wpAny_pure (wpAny_pure ?_))
  dsimp only
  simp only [Bool.false_eq_true, if_false]
  refine wpAny_bind (m := andM _ _) ?_
  unfold andM
  refine wpAny_bind (isAnySet_rule ha hca ?_)
  refine isAnySet_rule hb hcb ?_
  simp only [Bool.not_true, Bool.false_eq_true, if_false]
  unfold Builtin.Frozenset.addrOf
  refine wpAny_bind (wpAny_pure ?_)
  refine wpAny_bind ?_
  wp_delta
  refine wpAny_bind (baseOf_rule ha hca ?_)
  refine wpAny_bind (newFrom_rule hb hj (by omega) fun h1 o1 js1 hs1 ho1 hi1 hp1 => ?_)
  have keep1 : ∀ c oc, s.heap.get? c = some oc → h1.get? c = some oc := fun c oc e => (hs1.2 c (Nat.ne_of_lt (Heap.lt_size e))).trans (Heap.get?_push_of_some _ e)
  unfold Builtin.Frozenset.addrOf
  refine wpAny_bind (wpAny_pure ?_)
  have hlen1 : js1.length = js.length := hp1.length_eq
  refine wpAny_bind (wpAny_holding ?_)
  refine symUpdate_rule (s := { s with heap := h1 }) (Nat.ne_of_gt (Heap.lt_size ha)) ho1 hi1 (keep1 _ _ ha) h (by omega) fun h2 o2 cur hs2 ho2 hi2 hm2 => ?_
  refine wpAny_pure (wpAny_pure ⟨_, rfl, by simp, hQ h2 o2 cur (fun c oc e => (hs2.2 c (Nat.ne_of_lt (Heap.lt_size e))).trans (keep1 c oc e)) ho2 hi2 fun i => ?_⟩)
  rw [hm2 i, hp1.mem_iff]
  constructor
  · intro q1 q2; exact q1 q2.symm
  · intro q1 q2; exact q1 q2.symm

/-- a & b of two sets of ints -/
theorem setAnd_rule {Q : Value → Shared → Prop} (hab : a ≠ b) (ha : s.heap.get? a = some o) (h : SetIs w o ks) (hb : s.heap.get? b = some ob) (hj : SetIs w ob js) (hk14 : ks.length ≤ 14) (hj14 : js.length ≤ 14)
    (hQ : ∀ h' o' cur, (∀ c oc, s.heap.get? c = some oc → h'.get? c = some oc) → h'.get? s.heap.objs.size = some o' → SetIs w o' cur → (∀ i, i ∈ cur ↔ (i ∈ ks ∧ i ∈ js)) → Q (.ref s.heap.objs.size) { s with heap := h' }) :
    wpAny (model prog w) A (binaryOp .BitAnd (.ref a) (.ref b)) Q E s := by
  have hca : o.cls = .type "set" := by obtain ⟨_, _, _, hr, _⟩ := h; exact hr.1.1
  have hcb : ob.cls = .type "set" := by obtain ⟨_, _, _, hr, _⟩ := hj; exact hr.1.1
  have hTa : s.TypeIs (.ref a) "set" := ⟨o, ha, hca⟩
  have hTb : s.TypeIs (.ref b) "set" := ⟨ob, hb, hcb⟩
  refine wpAny_binaryOp_same (op := .BitAnd) (T := "set") hTa hTb F.fills_set_and F.slot_set_and (wpAny_call_entry F.slot_set_and hTa entry_set_and ?_ (F.args_set_and_2 _ _))
  unfold Builtin.«frozenset.__and__»
  wp_delta
  refine wpAny_bind (m := Builtin.Frozenset.slot1 "__and__" _) ?_
  unfold Builtin.Frozenset.slot1
  refine wpAny_bind (m := slotArgs "__and__" 1 _) (wpAny_pure (wpAny_pure ?_))
  dsimp only
  simp only [Bool.false_eq_true, if_false]
  refine wpAny_bind (m := andM _ _) ?_
  unfold andM
  refine wpAny_bind (isAnySet_rule ha hca ?_)
  refine isAnySet_rule hb hcb ?_
  simp only [Bool.not_true, Bool.false_eq_true, if_false]
  unfold Builtin.Frozenset.addrOf
  refine wpAny_bind (wpAny_pure ?_)
  refine wpAny_bind ?_
  unfold Builtin.Frozenset.intersection
  have hne : (Value.ref b == Value.ref a) = false := beq_eq_false_iff_ne.mpr (fun e => hab (by injection e with e; exact e.symm))
  rw [hne]
  simp only [Bool.false_eq_true, if_false]
  refine wpAny_bind (baseOf_rule ha hca ?_)
  refine wpAny_bind (newSet_rule ?_)
  unfold Builtin.Frozenset.addrOf
  refine wpAny_bind (wpAny_pure ?_)
  have keep1 : ∀ c oc, s.heap.get? c = some oc → (s.heap.push (freshSet w)).get? c = some oc := fun c oc e => Heap.get?_push_of_some _ e
  have ha1 := keep1 _ _ ha
  have hb1 := keep1 _ _ hb
  refine wpAny_bind (wpAny_holding (wpAny_bind (isAnySet_rule (s := { s with heap := s.heap.push (freshSet w) }) hb1 hcb ?_)))
  simp only [if_true]
  refine wpAny_bind (wpAny_pure ?_)
  obtain ⟨es, ep, t, hr, rfl⟩ := h
  obtain ⟨es2, ep2, t2, hr2, rfl⟩ := hj
  unfold Builtin.Frozenset.sizeOf
  refine wpAny_bind (wpAny_bind (wpAny_setEntries_of (s := { s with heap := s.heap.push (freshSet w) }) hb1 hr2.2.1 hr2.fits (wpAny_pure ?_)))
  refine wpAny_bind (wpAny_bind (wpAny_setEntries_of (s := { s with heap := s.heap.push (freshSet w) }) ha1 hr.2.1 hr.fits (wpAny_pure ?_)))
  have e1 : es.size ≤ 14 := by simpa using hk14
  have e2 : es2.size ≤ 14 := by simpa using hj14
  have hfa : s.heap.objs.size ≠ a := Nat.ne_of_gt (Heap.lt_size ha)
  have hfb : s.heap.objs.size ≠ b := Nat.ne_of_gt (Heap.lt_size hb)
  have hnew : (s.heap.push (freshSet w)).get? s.heap.objs.size = some (freshSet w) := Heap.get?_push_size _ rfl
  by_cases hgt : es2.size > es.size
  · rw [if_pos hgt]
    dsimp only
    refine wpAny_bind (wpAny_setEpoch_of (s := { s with heap := s.heap.push (freshSet w) }) ha1 hr.2.1 hr.fits ?_)
    refine interLoop_rule (s := { s with heap := s.heap.push (freshSet w) }) hfa hfb hnew ha1 hr hb1 hr2 e1 fun h2 o2 cur hs2 ho2 hi2 hm2 => ?_
    refine wpAny_pure (wpAny_pure ⟨_, rfl, by simp, hQ h2 o2 cur (fun c oc e => (hs2.2 c (Nat.ne_of_lt (Heap.lt_size e))).trans (keep1 c oc e)) ho2 hi2 hm2⟩)
  · rw [if_neg hgt]
    dsimp only
    refine wpAny_bind (wpAny_setEpoch_of (s := { s with heap := s.heap.push (freshSet w) }) hb1 hr2.2.1 hr2.fits ?_)
    refine interLoop_rule (s := { s with heap := s.heap.push (freshSet w) }) hfb hfa hnew hb1 hr2 ha1 hr e2 fun h2 o2 cur hs2 ho2 hi2 hm2 => ?_
    refine wpAny_pure (wpAny_pure ⟨_, rfl, by simp, hQ h2 o2 cur (fun c oc e => (hs2.2 c (Nat.ne_of_lt (Heap.lt_size e))).trans (keep1 c oc e)) ho2 hi2 fun i => ?_⟩)
    rw [hm2 i, and_comm]
end
end Mine
end
section
open PySem PyProof.Rows
set_option maxRecDepth 100000
namespace Mine
open SetT
theorem slot_setit_next : Slot "set_iterator" "__next__" "set_iterator.__next__" :=
  .of (owner := "set_iterator") (n := "__next__") (by rw [typeLookup_type, builtinLookup_eq_fast]; kernel_rfl) (by decide +kernel) (by decide +kernel) (by decide +kernel)
    (by first | exact .inl (by decide +kernel) | exact .inr (by decide +kernel)) (by rw [isSubtype_type]; kernel_rfl)
theorem slot_setit_iter : Slot "set_iterator" "__iter__" "set_iterator.__iter__" :=
  .of (owner := "set_iterator") (n := "__iter__") (by rw [typeLookup_type, builtinLookup_eq_fast]; kernel_rfl) (by decide +kernel) (by decide +kernel) (by decide +kernel)
    (by first | exact .inl (by decide +kernel) | exact .inr (by decide +kernel)) (by rw [isSubtype_type]; kernel_rfl)
theorem args_setit_next (a : Value) : argsOk "set_iterator.__next__" ⟨[a], []⟩ := by unfold argsOk; kernel_rfl
theorem args_setit_iter (a : Value) : argsOk "set_iterator.__iter__" ⟨[a], []⟩ := by unfold argsOk; kernel_rfl
theorem entry_setit_next : entryFor table "set_iterator.__next__" = some Builtin.«set_iterator.__next__» := entryFor_of_tree (by kernel_rfl)
theorem entry_setit_iter : entryFor table "set_iterator.__iter__" = some Builtin.«dict_keyiterator.__iter__» :=
  entryFor_alias (id' := "dict_keyiterator.__iter__") (by kernel_rfl) rfl (by decide +kernel) (by kernel_rfl)
theorem entry_set_iter : entryFor table "set.__iter__" = some Builtin.«frozenset.__iter__» :=
  entryFor_alias (id' := "frozenset.__iter__") (by kernel_rfl) rfl (by decide +kernel) (by kernel_rfl)

def SetIter (h : Heap) (I a : Addr) (slot i n ep : Nat) : Prop :=
  ∃ o, h.get? I = some o ∧ o.cls = .type "set_iterator" ∧ o.data = .fields #[.int slot 0, .int i 0, .ref a, .int n 0, .int ep 0]
def slotAt (w : World) (t : SetTable) (i : Nat) : Nat := if byText w then 0 else if i = 0 then 0 else t.place.getD (i - 1) 0 + 1

section
variable {prog : Program} {w : World} {A : Around} {E : Value → Shared → Prop} {s : Shared} {a I : Addr} {o : Obj} {es : Array (Int × Value)} {ep : Nat} {t : SetTable}

theorem SetIter.typeIs {slot i n ep : Nat} (h : SetIter s.heap I a slot i n ep) : s.TypeIs (.ref I) "set_iterator" := let ⟨o, ho, hc, _⟩ := h; ⟨o, ho, hc⟩
theorem SetIter.at {h h' : Heap} {slot i n ep : Nat} (x : SetIter h I a slot i n ep) (e : ∀ o, h.get? I = some o → h'.get? I = some o) : SetIter h' I a slot i n ep := let ⟨o, ho, r⟩ := x; ⟨o, e _ ho, r⟩

theorem below_slotAt (hb : byText w = false) (h : SetRaw w o es ep t) {i : Nat} (hi : i ≤ es.size) : SetTable.below t.place (slotAt w t i) = i := by
  unfold slotAt
  rw [hb]
  simp only [Bool.false_eq_true, if_false]
  have hn := h.2.2.2.1
  split
  · subst i; exact below_zero _ h.2.2.1.sorted
  · have := below_after t.place h.2.2.1.sorted (i - 1) (by omega)
    rw [this]; omega

theorem setNext_rule {i : Nat} {Q : Option (Value × Nat) → Shared → Prop} (ho : s.heap.get? a = some o) (h : SetRaw w o es ep t) (hi : i ≤ es.size)
    (hQ : Q (((walkOf w a ep es)[i]?).map fun e => (e.2, slotAt w t (i + 1))) s) : wpAny (model prog w) A (setNext a (slotAt w t i) i ep) Q E s := by
  unfold setNext
  refine wpAny_bind (wpAny_setState_of ho h.2.1 h.fits ?_)
  dsimp only
  refine wpAny_bind (setsByText_rule ?_)
  by_cases hb : byText w = true
  · rw [hb]
    simp only [if_true]
    rw [if_neg (by simp)]
    refine wpAny_bind (setWalk_rule ho h (wpAny_pure ?_))
    have e1 : slotAt w t i = slotAt w t (i + 1) := by unfold slotAt; rw [hb]; rfl
    rw [e1]
    exact hQ
  · rw [Bool.not_eq_true] at hb
    rw [hb]
    simp only [Bool.false_eq_true, if_false]
    have hl : t.led = true := h.2.2.2.2.1.resolve_right (by rw [hb]; exact Bool.false_ne_true)
    refine wpAny_ite ?_
    split
    · rename_i hd
      exfalso
      have : (!t.plain && es.size > 1) = true := hd
      rw [h.2.2.1.plain] at this
      simp at this
    · refine wpAny_bind ?_
      wp_delta
      rw [hl]
      simp only [Bool.not_true, Bool.false_and, Bool.false_eq_true, if_false]
      refine wpAny_pure (wpAny_pure ?_)
      rw [below_slotAt hb h hi]
      have hw : walkOf w a ep es = es := by unfold walkOf; rw [hb]; rfl
      rw [hw] at hQ
      have hn := h.2.2.2.1
      rcases Nat.lt_or_ge i es.size with q | q
      · have e1 : es[i]? = some es[i] := Array.getElem?_eq_getElem q
        have e2 := getD_of_lt t.place 0 (show i < t.place.size by omega)
        rw [e1] at hQ ⊢
        rw [e2]
        have e3 : slotAt w t (i + 1) = t.place.getD i 0 + 1 := by
          unfold slotAt; rw [hb]; simp
        rw [e3] at hQ
        exact hQ
      · have e1 : es[i]? = none := Array.getElem?_eq_none q
        rw [e1] at hQ ⊢
        exact hQ

theorem pyIter_set {Q : Value → Shared → Prop} (ho : s.heap.get? a = some o) (h : SetRaw w o es ep t)
    (hQ : Q (.ref s.heap.objs.size) { s with heap := s.heap.push { cls := .type "set_iterator", data := .fields #[.int 0 0, .int 0 0, .ref a, .int es.size 0, .int ep 0] } }) :
    wpAny (model prog w) A (pyIter (.ref a)) Q E s := by
  have hT : s.TypeIs (.ref a) "set" := ⟨o, ho, h.1.1⟩
  refine wpAny_pyIter_slot hT F.slot_set_iter (wpAny_call_entry F.slot_set_iter hT entry_set_iter ?_ (F.args_set_iter_1 _))
  unfold Builtin.«frozenset.__iter__»
  refine wpAny_bind (m := Builtin.Frozenset.slot0 "__iter__" _) ?_
  unfold Builtin.Frozenset.slot0
  refine wpAny_bind (m := slotArgs "__iter__" 0 _) (wpAny_pure ?_)
  unfold Builtin.Frozenset.addrOf
  refine wpAny_pure ?_
  unfold Builtin.Frozenset.sizeOf
  refine wpAny_bind (wpAny_bind (wpAny_setEntries_of ho h.2.1 h.fits (wpAny_pure ?_)))
  unfold setDrawn
  refine wpAny_bind (wpAny_bind (wpAny_setState_of ho h.2.1 h.fits ?_))
  dsimp only
  refine wpAny_bind (setsByText_rule (wpAny_pure ?_))
  refine wpAny_ite ?_
  split
  · rename_i hd
    exfalso
    have : (!byText w && (!t.plain && es.size > 1)) = true := hd
    rw [h.2.2.1.plain] at this
    simp at this
  · refine wpAny_bind (wpAny_pure ?_)
    refine wpAny_bind (wpAny_setEpoch_of ho h.2.1 h.fits ?_)
    refine wpAny_bind (wpAny_newObj_type (wpAny_pure ⟨_, rfl, "set_iterator", _, ⟨_, Heap.get?_push_size _ rfl, rfl⟩, slot_setit_next.lookup, ?_⟩))
    exact hQ

theorem pyIter_setit {slot i n ep : Nat} {Q : Value → Shared → Prop} (hit : SetIter s.heap I a slot i n ep) (h : Q (.ref I) s) : wpAny (model prog w) A (pyIter (.ref I)) Q E s := by
  refine wpAny_pyIter_slot hit.typeIs slot_setit_iter (wpAny_call_entry slot_setit_iter hit.typeIs entry_setit_iter ?_ (args_setit_iter _))
  show wpAny _ _ (ret (.ref I)) _ _ s
  exact wpAny_pure ⟨_, rfl, "set_iterator", _, hit.typeIs, slot_setit_next.lookup, h⟩

theorem pyNext_set_item {i : Nat} {e : Int × Value} {Q : Option Value → Shared → Prop} (hit : SetIter s.heap I a (slotAt w t i) i es.size ep) (ho : s.heap.get? a = some o) (h : SetRaw w o es ep t)
    (he : (walkOf w a ep es)[i]? = some e)
    (hQ : ∀ h', SetIter h' I a (slotAt w t (i + 1)) (i + 1) es.size ep → Heap.SameBut I s.heap h' → Q (some e.2) { s with heap := h' }) :
    wpAny (model prog w) A (pyNext (.ref I)) Q E s := by
  obtain ⟨oI, hoI, hc, hd⟩ := id hit
  have hi : i < es.size := by
    have hp := (walkOf_perm w a ep es).length_eq
    have : i < (walkOf w a ep es).size := by
      rcases Nat.lt_or_ge i (walkOf w a ep es).size with q | q
      · exact q
      · rw [Array.getElem?_eq_none q] at he; cases he
    simp at hp; omega
  unfold pyNext
  refine wpAny_bind (wpAny_attempt (wpAny_callSpecial?_slot (name := Str.ofString "__next__") hit.typeIs slot_setit_next
    (wpAny_call_entry slot_setit_next hit.typeIs entry_setit_next ?_ (args_setit_next _))))
  unfold Builtin.«set_iterator.__next__»
  refine wpAny_bind (m := slotArgs "__next__" 0 _) (wpAny_pure ?_)
  dsimp only
  refine wpAny_bind (wpAny_fieldsOf hoI hd ?_)
  dsimp only
  refine wpAny_bind (wpAny_setEntries_of ho h.2.1 h.fits ?_)
  rw [if_neg (by simp)]
  rw [Int.toNat_natCast, Int.toNat_natCast, Int.toNat_natCast]
  refine wpAny_bind (setNext_rule ho h (Nat.le_of_lt hi) ?_)
  rw [he]
  dsimp only [Option.map]
  refine wpAny_bind (wpAny_setField hoI hd (by simp) ?_)
  have hg1 := Heap.get?_update_self (Obj.mapFields (·.setIfInBounds 0 (rawInt (slotAt w t (i + 1) : Nat)))) hoI (Obj.isFreed_of_fields (Obj.data_mapFields hd _))
  have hd1 := Obj.data_mapFields hd (·.setIfInBounds 0 (rawInt (slotAt w t (i + 1) : Nat)))
  refine wpAny_bind (wpAny_setField (s := { s with heap := _ }) hg1 hd1 (by simp) ?_)
  have hg2 := Heap.get?_update_self (Obj.mapFields (·.setIfInBounds 1 (rawInt ((i : Int) + 1)))) hg1 (Obj.isFreed_of_fields (Obj.data_mapFields hd1 _))
  refine wpAny_pure ⟨_, rfl, wpAny_pure (hQ _ ⟨_, hg2, ?_, ?_⟩ ?_)⟩
  · rw [Obj.cls_mapFields, Obj.cls_mapFields]; exact hc
  · rw [Obj.data_mapFields hd1]; simp [rawInt]
  · exact (Heap.SameBut.update ..).trans (Heap.SameBut.update ..)

theorem pyNext_set_end {Q : Option Value → Shared → Prop} (hh : A.handled = none) (hit : SetIter s.heap I a (slotAt w t es.size) es.size es.size ep) (ho : s.heap.get? a = some o) (h : SetRaw w o es ep t)
    (hQ : ∀ h', Heap.ExtBut I s.heap h' → Q none { s with heap := h' }) :
    wpAny (model prog w) A (pyNext (.ref I)) Q E s := by
  obtain ⟨oI, hoI, hc, hd⟩ := id hit
  have he : (walkOf w a ep es)[es.size]? = none := by
    have hp := (walkOf_perm w a ep es).length_eq
    simp at hp
    exact Array.getElem?_eq_none (by omega)
  unfold pyNext
  refine wpAny_bind (wpAny_attempt (wpAny_callSpecial?_slot (name := Str.ofString "__next__") hit.typeIs slot_setit_next
    (wpAny_call_entry slot_setit_next hit.typeIs entry_setit_next ?_ (args_setit_next _))))
  unfold Builtin.«set_iterator.__next__»
  refine wpAny_bind (m := slotArgs "__next__" 0 _) (wpAny_pure ?_)
  dsimp only
  refine wpAny_bind (wpAny_fieldsOf hoI hd ?_)
  dsimp only
  refine wpAny_bind (wpAny_setEntries_of ho h.2.1 h.fits ?_)
  rw [if_neg (by simp)]
  rw [Int.toNat_natCast, Int.toNat_natCast, Int.toNat_natCast]
  refine wpAny_bind (setNext_rule ho h (Nat.le_refl _) ?_)
  rw [he]
  dsimp only [Option.map]
  refine wpAny_bind (wpAny_setField hoI hd (by simp) ?_)
  show wpAny _ _ (newExc (.type "StopIteration") [] >>= _) _ _ _
  refine wpAny_bind ?_
  simp only [newExc, newTuple]
  refine wpAny_bind (wpAny_newObj_type ?_ (by size_fits))
  refine wpAny_bind (m := firstArgMember _ _) (wpAny_of_eq (a := Value.none) (by first | rfl | (simp only [firstArgMember]; rfl)) ?_)
  refine wpAny_newObj_type ?_ (by size_fits)
  simp only [raiseNew]
  refine wpAny_bind (wpAny_handled ?_)
  rw [show A.in1.handled = none from hh]
  refine wpAny_bind (wpAny_pure (wpAny_throw ?_))
  refine wpAny_bind (wpAny_isInstance (T := "StopIteration") (b := true) ⟨_, Heap.get?_push_size _ rfl, rfl⟩ isSubtype_stop ?_)
  exact wpAny_pure (hQ _ (((Heap.SameBut.update ..).extBut.push _).push _))

theorem walks_set (hh : A.handled = none) (I a : Addr) (hne : a ≠ I) (h : SetRaw w o es ep t) :
    Walks prog w A I [I, a] [I] es.size (fun i v => ∃ e, (walkOf w a ep es)[i]? = some e ∧ v = e.2) (fun i h => SetIter h I a (slotAt w t i) i es.size ep ∧ h.get? a = some o) where
  sub := fun b hb => by simp at hb; simp [hb]
  frame := fun _ _ _ st hk => ⟨st.1.at fun o e => hk I (by simp) o e, hk a (by simp) _ st.2⟩
  item := fun i s Q E hi st hQ => by
    have hp := (walkOf_perm w a ep es).length_eq
    simp at hp
    have he : (walkOf w a ep es)[i]? = some ((walkOf w a ep es)[i]'(by omega)) := Array.getElem?_eq_getElem _
    refine pyNext_set_item st.1 st.2 h he fun h' hit' hs' => ?_
    exact hQ _ h' s.toks ⟨_, he, rfl⟩ ⟨hit', (hs'.2 a hne).trans st.2⟩ fun b o hb e => hs'.extBut b o (fun h => hb (by simp [h])) e
  done := fun s Q E st hQ => pyNext_set_end hh st.1 st.2 h fun h' he' => hQ h' s.toks fun b o hb e => he' b o (fun h => hb (by simp [h])) e
  self := fun _ _ _ _ st hQ => pyIter_setit st.1 hQ
end
end Mine
end
section
open PySem PyProof.Rows
set_option maxRecDepth 100000
namespace Mine
open SetT
section
variable {prog : Program} {w : World} {A : Around} {E : Value → Shared → Prop} {s : Shared} {a I : Addr} {o : Obj} {ks : List Int}

theorem maxSet_rule {Q : Value → Shared → Prop} (hh : A.handled = none) (ho : s.heap.get? a = some o) (h : SetIs w o ks) (hne : ks ≠ [])
    (hQ : ∀ M t h' tk, M ∈ ks → (∀ k ∈ ks, k ≤ M) → (∀ b o, s.heap.get? b = some o → h'.get? b = some o) → Q (.int M t) { s with heap := h', toks := tk }) :
    wpAny (model prog w) A (call (.builtin "max") [.ref a]) Q E s := by
  obtain ⟨es, ep, t, hr, rfl⟩ := h
  have hp := walkOf_perm w a ep es
  have hlen := hp.length_eq
  rw [Array.length_toList, Array.length_toList] at hlen
  have hpos : 0 < es.size := by
    rcases Nat.eq_zero_or_pos es.size with q | q
    · exfalso; apply hne
      have : es = #[] := Array.eq_empty_of_size_eq_zero q
      subst this; rfl
    · exact q
  have hne' : a ≠ s.heap.objs.size := Nat.ne_of_lt (Heap.lt_size ho)
  refine call_max_walk (pyIter_set ho hr ?_)
  let num : Nat → Int := fun i => (((walkOf w a ep es)[i]?).map ival).getD 0
  refine ⟨s.heap.objs.size, _, _, _, _, _, _, rfl, walks_set (A := A.in1) hh _ a hne' hr, ⟨⟨_, Heap.get?_push_size _ rfl, rfl, ?_⟩, Heap.get?_push_of_some _ ho⟩, ?_, hpos, CmpOf.ints_gt num ?_, fun v h' tk hP hk => ?_⟩
  · have : slotAt w t 0 = 0 := by unfold slotAt; split <;> rfl
    rw [this]; rfl
  · intro b hb
    show b < (s.heap.push _).objs.size
    rw [Heap.size_push]
    rcases List.mem_cons.mp hb with rfl | hb
    · exact Nat.lt_succ_self _
    · rw [List.mem_singleton.mp hb]; exact Nat.lt_succ_of_lt (Heap.lt_size ho)
  · rintro i v ⟨e, he, rfl⟩
    have hm : e ∈ (walkOf w a ep es).toList := Array.mem_toList_iff.mpr (Array.mem_of_getElem? he)
    obtain ⟨tk, hetk⟩ := hr.2.2.2.2.2.1 e (hp.mem_iff.mp hm)
    refine ⟨tk, ?_⟩
    show e.2 = .int ((((walkOf w a ep es)[i]?).map ival).getD 0) tk
    rw [he]
    show e.2 = .int (ival e) tk
    have := congrArg Prod.snd hetk
    exact this
  · obtain ⟨e, he, rfl⟩ := hP
    obtain ⟨h1, h2⟩ := argBest_gt num (es.size - 1)
    have hm : e ∈ (walkOf w a ep es).toList := Array.mem_toList_iff.mpr (Array.mem_of_getElem? he)
    have hme := hp.mem_iff.mp hm
    obtain ⟨tke, hetk⟩ := hr.2.2.2.2.2.1 e hme
    have e2 : e.2 = .int (ival e) tke := congrArg Prod.snd hetk
    have hnum : num (argBest (fun i j => decide (num i > num j)) (es.size - 1)) = ival e := by
      show (((walkOf w a ep es)[_]?).map ival).getD 0 = _
      rw [he]; rfl
    rw [e2]
    refine hQ _ _ _ _ (List.mem_map.mpr ⟨e, hme, rfl⟩) (fun k hk' => ?_) fun b o' e' => hk b o' (fun hb => ?_) (Heap.get?_push_of_some _ e')
    · obtain ⟨x, hx, rfl⟩ := List.mem_map.mp hk'
      obtain ⟨i, hi, hxi⟩ := List.mem_iff_getElem.mp (hp.mem_iff.mpr hx)
      have hi' : i < (walkOf w a ep es).size := by simpa using hi
      have hg : (walkOf w a ep es)[i]? = some x := by rw [Array.getElem?_eq_getElem hi', ← hxi]; simp
      have := h2 i (by omega)
      rw [hnum] at this
      have hnx : num i = ival x := by show (((walkOf w a ep es)[i]?).map ival).getD 0 = _; rw [hg]; rfl
      rw [← hnx]; exact this
    · have := List.mem_singleton.mp hb
      rw [this] at e'
      exact absurd (Heap.lt_size e') (Nat.lt_irrefl _)

theorem setAdd_rule {k : Int} {tk : Tok} {Q : Value → Shared → Prop} (ho : s.heap.get? a = some o) (h : SetIs w o ks) (hroom : ks.length + 1 ≤ 15) (hk : k ∉ ks)
    (hQ : ∀ h' o' ks', Heap.SameBut a s.heap h' → h'.get? a = some o' → SetIs w o' ks' → List.Perm ks' (k :: ks) → Q .none { s with heap := h', toks := s.toks + 1 }) :
    wpAny (model prog w) A (call (.builtin "set.add") [.ref a, .int k tk]) Q E s := by
  have hT : s.TypeIs (.ref a) "set" := by obtain ⟨_, _, _, hr, _⟩ := h; exact ⟨o, ho, hr.1.1⟩
  refine wpAny_call_entry F.slot_set_add hT F.entry_set_add ?_ (F.args_set_add_2 _ _)
  unfold Builtin.«set.add» Builtin.Frozenset.oneOther
  simp only [List.isEmpty_nil, bind_assoc]
  unfold Builtin.Frozenset.addrOf setAdd
  refine wpAny_bind (wpAny_pure ?_)
  refine wpAny_bind (wpAny_pure ?_)
  refine wpAny_bind (wpAny_holding (wpAny_bind ?_))
  refine (intKind prog w).pyHash (k := k) (intKind_is prog w k tk) ?_
  refine setAddHashed_rule (s := { s with toks := s.toks + 1 }) ho h hroom (fun q => absurd q hk) fun _ h' o' ks' hs' ho' hi' hp' => ?_
  exact wpAny_pure ⟨_, rfl, hQ h' o' ks' hs' ho' hi' hp'⟩

theorem lenSet_rule {Q : Value → Shared → Prop} (ho : s.heap.get? a = some o) (h : SetIs w o ks)
    (hQ : Q (.int ks.length (s.toks + 1)) { s with toks := s.toks + 1 + 1 }) : wpAny (model prog w) A (call (.builtin "len") [.ref a]) Q E s := by
  obtain ⟨es, ep, t, hr, rfl⟩ := h
  have hz : ((es.toList.map ival).length : Int) = es.size := by simp
  rw [hz] at hQ
  exact call_len_set ho hr.1 hr.2.1 hr.fits (by have := hr.small; omega) hQ

theorem noBool_set : typeLookup (.type "set") "__bool__" = pure none := by rw [typeLookup_type, builtinLookup_eq_fast]; kernel_rfl
theorem truthySet_rule {Q : Bool → Shared → Prop} (ho : s.heap.get? a = some o) (h : SetIs w o ks)
    (hQ : Q (!ks.isEmpty) { s with toks := s.toks + 1 + 1 }) : wpAny (model prog w) A (truthy (.ref a)) Q E s := by
  obtain ⟨es, ep, t, hr, rfl⟩ := h
  have hT : s.TypeIs (.ref a) "set" := ⟨o, ho, hr.1.1⟩
  have hne : ((es.size : Int) != 0) = !(es.toList.map ival).isEmpty := by
    have hz : (es.toList.map ival).length = es.size := by simp
    rw [← hz]
    cases (es.toList.map ival) <;> simp <;> omega
  have key : wpAny (model prog w) A (runValue (.builtin "len" ⟨[.ref a], []⟩)) (fun r s' => r = .int es.size (s.toks + 1) ∧ Q (!(es.toList.map ival).isEmpty) s') E s := by
    refine wpAny_runValue (codeAny_builtin entry_len ?_)
    rw [Around.under_plainId plain_len _]
    exact wpAny_mono (wpAny_len_body_set (Q := fun r s' => r = .int es.size (s.toks + 1) ∧ Q (!(es.toList.map ival).isEmpty) s') ho hr.1 hr.2.1 hr.fits (by have := hr.small; omega) ⟨rfl, hQ⟩)
      (fun fin s' h' => by obtain ⟨r, rfl, hq⟩ := h'; exact hq) fun _ _ e => e
  unfold truthy
  refine wpAny_bind (wpAny_callSpecial?_none (name := Str.ofString "__bool__") hT noBool_set ?_)
  refine wpAny_bind (wpAny_specialOf (name := Str.ofString "__len__") hT F.slot_set_len.lookup ?_)
  exact wpAny_bind (wpAny_mono key (fun r s' h' => by obtain ⟨rfl, hq⟩ := h'; exact wpAny_pure (hne ▸ hq)) fun _ _ e => e)

/-- set() -/
theorem codeSetNew {Q₁ : Value → Shared → Prop} (h : Q₁ (.ref s.heap.objs.size) { s with heap := s.heap.push (freshSet w) }) :
    codeAny (model prog w) A (.call (.builtin "set.__new__") ⟨[.type "set"], []⟩) (wants Q₁ E) s := by
  refine codeAny_of_tree ?_
  show wpAny _ A.in1 (do checkBuiltinCall "set.__new__" ⟨[.type "set"], []⟩; again (.builtin "set.__new__" ⟨[.type "set"], []⟩)) _ _ s
  refine wpAny_bind (wpAny_of_eq F.newCall_set_0 (wpAny_pure ⟨plainId_quiet F.plain_set_new _, codeAny_builtin F.entry_set_new ?_⟩))
  rw [Around.under_plainId F.plain_set_new _]
  unfold Builtin.«set.__new__» Builtin.Frozenset.newClass
  have hsub := sub_set_self
  obtain ⟨hp, g, d, tk, os⟩ := s
  dsimp only
  wp_walk
  refine wpAny_askSetting (wpAny_pure ?_)
  dsimp only
  simp only [newObj]
  refine wpAny_bind (wpAny_alloc (wpAny_pure ?_))
  exact wpAny_pure h

set_option maxHeartbeats 1000000 in
theorem setNew_rule {Q : Value → Shared → Prop} (h : Q (.ref s.heap.objs.size) { s with heap := s.heap.push (freshSet w) }) :
    wpAny (model prog w) A (call (.type "set") []) Q E s := by
  obtain ⟨c, tl, hmro⟩ := F.called_set.mro
  have hmade := F.called_set.made
  have hsub := F.called_set.sub
  refine wpAny_call (codeAny_of_tree ?_)
  show wpAny _ _ (callAny (.type "set") _) _ _ _
  refine wpAny_pure ⟨Code.quiet_builtin _ (by decide +kernel), codeAny_builtin F.entry_type_call ?_⟩
  rw [Around.under_plain (weight_type_call_type "set" [] []) rfl]
  have h1 := F.called_set.notType
  have h2 := F.called_set.canCreate
  have hct := F.typeCall_set_0
  repeat (any_goals (first | assumption | wp_step))
  refine codeAny_mono (codeSetNew (E := E) (Q₁ := fun obj s₁ => obj = .ref s.heap.objs.size ∧ s₁ = { s with heap := s.heap.push (freshSet w) }) ⟨rfl, rfl⟩) fun r s₁ hr => ?_
  cases r with
  | error e => exact hr
  | ok fl =>
    cases fl with
    | ret obj =>
      obtain ⟨rfl, rfl⟩ := hr
      have hS : (s.heap.push (freshSet w)).get? s.heap.objs.size = some (freshSet w) := Heap.get?_push_size _ rfl
      have hT : Shared.TypeIs { s with heap := s.heap.push (freshSet w) } (.ref s.heap.objs.size) "set" := ⟨_, hS, rfl⟩
      have hli := F.called_set.init.lookup
      have hbi := F.called_set.init.bind (.ref s.heap.objs.size)
      repeat (any_goals (first | assumption | wp_step))
      refine codeAny_mono (codeAny_call_builtin (R := wants (fun r s₂ => r = .none ∧ Q (.ref s.heap.objs.size) s₂) E) F.called_set.init.plain F.entry_set_init (check_set_init hT ?_)) fun r₂ s₂ hr₂ => ?_
      · unfold Builtin.«set.__init__» noKeywords
        wp_walk
        exact ⟨rfl, h⟩
      · cases r₂ with
        | error e => exact hr₂
        | ok fl₂ =>
          cases fl₂ with
          | ret r =>
            obtain ⟨rfl, hq⟩ := hr₂
            repeat (any_goals (first | assumption | wp_step))
          | _ => exact hr₂.elim
    | _ => exact hr.elim
end
end Mine
end
section
open PySem PySem.W PyProof.Rows
set_option maxRecDepth 100000
namespace Mine
section
variable {prog : Program} {w : World} {A : Around} {E : Value → Shared → Prop} {s : Shared} {h₀ : Heap} {L a b : Addr} {o ob : Obj} {m : Str → Option Value} {news : List (Addr × Obj)} {ks js : List Int}

theorem news_grow {h' : Heap} {D : Addr} {o' : Obj} (F : Fr h₀ L s.heap m) (N : News h₀ L s.heap news) (hk : ∀ c oc, s.heap.get? c = some oc → h'.get? c = some oc) (hD : D = s.heap.objs.size) (ho : h'.get? D = some o') :
    News h₀ L h' ((D, o') :: news) := by
  subst hD
  intro p hp
  rcases List.mem_cons.mp hp with rfl | hp
  · exact ⟨ho, Nat.ne_of_gt F.ns.lt, next_is_new F⟩
  · exact ⟨hk _ _ (N p hp).1, (N p hp).2⟩
theorem news_lt (N : News h₀ L s.heap news) : ∀ p ∈ news, p.1 < s.heap.objs.size := fun p hp => Heap.lt_size (N p hp).1

theorem setNew_N {Q : Value → Shared → Prop} (F : Fr h₀ L s.heap m) (N : News h₀ L s.heap news)
    (h : ∀ D h' so, Fr h₀ L h' m → News h₀ L h' ((D, so) :: news) → (∀ p ∈ news, p.1 < D) → SetIs w so [] → Q (.ref D) { s with heap := h' }) :
    wpAny (model prog w) A (call (.type "set") []) Q E s := by
  refine setNew_rule ?_
  exact h _ _ _ (F.push _) (news_grow F N (fun c oc e => Heap.get?_push_of_some _ e) rfl (Heap.get?_push_size _ rfl)) (news_lt N) freshIs

theorem setXor_N {Q : Value → Shared → Prop} (F : Fr h₀ L s.heap m) (N : News h₀ L s.heap news) (ha : (a, o) ∈ news) (hs : SetIs w o ks) (hb : (b, ob) ∈ news) (hj : SetIs w ob js) (hroom : js.length + ks.length ≤ 14)
    (h : ∀ D h' o' cur, Fr h₀ L h' m → News h₀ L h' ((D, o') :: news) → (∀ p ∈ news, p.1 < D) → SetIs w o' cur → (∀ i, i ∈ cur ↔ ¬ (i ∈ ks ↔ i ∈ js)) → Q (.ref D) { s with heap := h' }) :
    wpAny (model prog w) A (binaryOp .BitXor (.ref a) (.ref b)) Q E s := by
  refine setXor_rule (N _ ha).1 hs (N _ hb).1 hj hroom fun h' o' cur hk ho hi hm => ?_
  exact h _ _ _ _ (F.grownK hk) (news_grow F N hk rfl ho) (news_lt N) hi hm

theorem setAnd_N {Q : Value → Shared → Prop} (F : Fr h₀ L s.heap m) (N : News h₀ L s.heap news) (hab : a ≠ b) (ha : (a, o) ∈ news) (hs : SetIs w o ks) (hb : (b, ob) ∈ news) (hj : SetIs w ob js) (hk14 : ks.length ≤ 14) (hj14 : js.length ≤ 14)
    (h : ∀ D h' o' cur, Fr h₀ L h' m → News h₀ L h' ((D, o') :: news) → (∀ p ∈ news, p.1 < D) → SetIs w o' cur → (∀ i, i ∈ cur ↔ (i ∈ ks ∧ i ∈ js)) → Q (.ref D) { s with heap := h' }) :
    wpAny (model prog w) A (binaryOp .BitAnd (.ref a) (.ref b)) Q E s := by
  refine setAnd_rule hab (N _ ha).1 hs (N _ hb).1 hj hk14 hj14 fun h' o' cur hk ho hi hm => ?_
  exact h _ _ _ _ (F.grownK hk) (news_grow F N hk rfl ho) (news_lt N) hi hm

theorem setAdd_N {g : Obj → List (Addr × Obj)} {k : Int} {tk : Tok} {Q : Value → Shared → Prop} (F : Fr h₀ L s.heap m) (N : News h₀ L s.heap news) (U : UpdF a o news g) (hs : SetIs w o ks) (hroom : ks.length + 1 ≤ 15) (hk : k ∉ ks)
    (h : ∀ h' o' ks', Fr h₀ L h' m → News h₀ L h' (g o') → SetIs w o' ks' → List.Perm ks' (k :: ks) → Q .none { s with heap := h', toks := s.toks + 1 }) :
    wpAny (model prog w) A (call (.builtin "set.add") [.ref a, .int k tk]) Q E s := by
  obtain ⟨pre, post, rfl, hg, h1, h2⟩ := U.split
  have ha := N (a, o) (List.mem_append_right _ (.head _))
  refine setAdd_rule ha.1 hs hroom hk fun h' o' ks' hsb ho hi hp => ?_
  exact h h' o' ks' (F.change hsb ha.2.1 ha.2.2) (hg o' ▸ N.setAt h1 h2 hsb ho) hi hp

theorem setMeth_N {pl : Sem Bool} {Q : Value × List Value → Shared → Prop} (N : News h₀ L s.heap news) (ha : (a, o) ∈ news) (hs : SetIs w o ks) (h : Q (.builtin "set.add", [.ref a]) s) :
    wpAny (model prog w) A (getMethod (.ref a) "add" pl) Q E s := by
  obtain ⟨es, ep, t, hr, e⟩ := hs
  have ho := (N _ ha).1
  exact getMethod_builtin (T := "set") ⟨o, ho, hr.1.1⟩ F.plainAttrs_set F.slot_set_add F.type_set_add (fun b e => by injection e with e; subst e; exact ⟨o, ho, hr.1.2.1⟩) h

theorem setLen_N {Q : Value → Shared → Prop} (N : News h₀ L s.heap news) (ha : (a, o) ∈ news) (hs : SetIs w o ks)
    (h : Q (.int ks.length (s.toks + 1)) { s with toks := s.toks + 1 + 1 }) : wpAny (model prog w) A (call (.builtin "len") [.ref a]) Q E s :=
  lenSet_rule (N _ ha).1 hs h
theorem setTruthy_N {Q : Bool → Shared → Prop} (N : News h₀ L s.heap news) (ha : (a, o) ∈ news) (hs : SetIs w o ks)
    (h : Q (!ks.isEmpty) { s with toks := s.toks + 1 + 1 }) : wpAny (model prog w) A (truthy (.ref a)) Q E s :=
  truthySet_rule (N _ ha).1 hs h
theorem setMax_N {Q : Value → Shared → Prop} (hh : A.handled = none) (F : Fr h₀ L s.heap m) (N : News h₀ L s.heap news) (ha : (a, o) ∈ news) (hs : SetIs w o ks) (hne : ks ≠ [])
    (h : ∀ M t h' tk, M ∈ ks → (∀ k ∈ ks, k ≤ M) → Fr h₀ L h' m → News h₀ L h' news → Q (.int M t) { s with heap := h', toks := tk }) :
    wpAny (model prog w) A (call (.builtin "max") [.ref a]) Q E s :=
  maxSet_rule hh (N _ ha).1 hs hne fun M t h' tk h1 h2 hk => h M t h' tk h1 h2 (F.grownK hk) (N.grown hk)
end

/-- the dict of a bitmap -/
abbrev bmD (P : Params) (b : Addr) (c : Int) (t1 t2 t3 : Tok) : Obj := dictOf [⟨PyData.keyHash P (Str.ofString "bits"), .str (Str.ofString "bits") t1, .ref b⟩, ⟨PyData.keyHash P (Str.ofString "bit_count"), .str (Str.ofString "bit_count") t2, .int c t3⟩] 2

end Mine
end
section
open PySem PySem.W PyProof.Rows
set_option maxRecDepth 100000
namespace Mine
open PySem.Spec

/-- the end of a turn: what the loop's word asks, the iterator as it stood -/
def ForEnd (h₀ : Heap) (L I : Addr) (oI : Obj) (J : (Str → Option Value) → List (Addr × Obj) → Prop) (s₁ : Shared) (Q : Flow → Shared → Prop) (f : Flow) (s₂ : Shared) : Prop :=
  match f with
  | .ret v => Q (.ret v) s₂
  | .brk => Q .next s₂
  | _ => ∃ h' tk m₂ nw, s₂ = { s₁ with heap := h', toks := tk } ∧ Fr h₀ L h' m₂ ∧ News h₀ L h' ((I, oI) :: nw) ∧ (∀ p ∈ nw, p.1 ≠ I) ∧ J m₂ nw

theorem ForEnd.next {h₀ : Heap} {L I : Addr} {oI : Obj} {J : (Str → Option Value) → List (Addr × Obj) → Prop} {s₁ : Shared} {Q : Flow → Shared → Prop} {h' : Heap} {tk : Nat} {m₂ : Str → Option Value} {all nw : List (Addr × Obj)}
    (F : Fr h₀ L h' m₂) (N : News h₀ L h' all) (sub : ∀ p ∈ (I, oI) :: nw, p ∈ all) (off : ∀ p ∈ nw, p.1 ≠ I) (hJ : J m₂ nw) : ForEnd h₀ L I oI J s₁ Q .next { s₁ with heap := h', toks := tk } :=
  ⟨h', tk, m₂, nw, rfl, F, fun p hp => N p (sub p hp), off, hJ⟩

section
variable {prog : Program} {w : World} {A : Around} {E : Value → Shared → Prop} {s : Shared} {env : Env} {h₀ : Heap} {L : Addr}

theorem forLoop_J {R : Result → Shared → Prop} {target : Expr} {body : List Stmt} {I : Addr} {fp : List Addr} {n : Nat} {P : Nat → Value → Prop} {St : Nat → Heap → Prop} {m : Str → Option Value} {news : List (Addr × Obj)} {Q : Flow → Shared → Prop}
    (W : Walks prog w A I fp [I] n P St) (J : Nat → (Str → Option Value) → List (Addr × Obj) → Prop) (S : List (Addr × Obj) → Prop)
    (hIo : ∀ i h, St i h → ∃ o, h.get? I = some o)
    (hSt : ∀ i h h' o nw, St i h → h.get? I = some o → h'.get? I = some o → (∀ b o, h₀.get? b = some o → h'.get? b = some o) → News h₀ L h' nw → S nw → St i h')
    (hJS : ∀ i m nw, J i m nw → S nw)
    (hIL : L ≠ I) (hI₀ : h₀.get? I = none)
    (hgo : ∀ i (s' : Shared) v (Q' : Unit → Shared → Prop) (E' : Value → Shared → Prop), St i s'.heap → Q' () s' → wpAny (model prog w) A (letOwnedTupleGo target (.ref I) v) Q' E' s')
    (hst : St 0 s.heap) (F : Fr h₀ L s.heap m) (N : News h₀ L s.heap news) (off : ∀ p ∈ news, p.1 ≠ I) (hJ : J 0 m news)
    (turn : ∀ i v m₁ nw oI h tk, i < n → P i v → J i m₁ nw → Fr h₀ L h m₁ → News h₀ L h ((I, oI) :: nw) → (∀ p ∈ nw, p.1 ≠ I) →
      wpAny (model prog w) A (assign target env v) (fun _ s₂ => wpAny (model prog w) A (execs body env) (ForEnd h₀ L I oI (J (i + 1)) { s with heap := h, toks := tk } Q) (notedBy (model prog w) A env fun e s' => R (.error e) s') s₂) (notedBy (model prog w) A env fun e s' => R (.error e) s') { s with heap := h, toks := tk })
    (done : ∀ m' nw h tk, J n m' nw → Fr h₀ L h m' → News h₀ L h nw → Q .next { s with heap := h, toks := tk })
    (hR : ∀ f s', Q f s' → R (.ok f) s') :
    codeAny (model prog w) A (.forLoop target (.ref I) body [] env) R s := by
  refine codeAny_forLoop_any
    (fun k s' => ∃ h' tk m' nw i, s' = { s with heap := h', toks := tk } ∧ St i h' ∧ Fr h₀ L h' m' ∧ News h₀ L h' nw ∧ (∀ p ∈ nw, p.1 ≠ I) ∧ J i m' nw ∧ i ≤ n ∧ k = n + 1 - i) ?_ (n + 1)
    ⟨s.heap, s.toks, m, news, 0, rfl, hst, F, N, off, hJ, Nat.zero_le _, rfl⟩
  rintro k s' ⟨h', tk, m', nw, i, rfl, hst', F', N', off', hJ', hi, rfl⟩
  by_cases hlt : i < n
  · refine W.item i _ _ _ hlt hst' fun v h₁ tk₁ hP hst₁ hk₁ => ?_
    refine hgo (i + 1) _ v _ _ hst₁ ?_
    obtain ⟨oI, hoI⟩ := hIo _ _ hst₁
    have F₁ : Fr h₀ L h₁ m' := LCg.fr_but F' hk₁ hIL hI₀
    have N₁ : News h₀ L h₁ nw := LCg.news_but N' hk₁ off'
    have N₂ : News h₀ L h₁ ((I, oI) :: nw) := fun p hp => by
      rcases List.mem_cons.mp hp with rfl | hp
      · exact ⟨hoI, Ne.symm hIL, hI₀⟩
      · exact N₁ p hp
    refine wpAny_mono (turn i v m' nw oI h₁ tk₁ hlt hP hJ' F₁ N₂ off') (fun _ s₂ h₂ => wpAny_mono h₂ (fun f s₃ h₃ => ?_) fun _ _ e => e) fun _ _ e => e
    have fin : (∃ h' tk m₂ nw, s₃ = { s with heap := h', toks := tk } ∧ Fr h₀ L h' m₂ ∧ News h₀ L h' ((I, oI) :: nw) ∧ (∀ p ∈ nw, p.1 ≠ I) ∧ J (i + 1) m₂ nw) →
        ∃ m, m < n + 1 - i ∧ ∃ h' tk m' nw i, s₃ = { s with heap := h', toks := tk } ∧ St i h' ∧ Fr h₀ L h' m' ∧ News h₀ L h' nw ∧ (∀ p ∈ nw, p.1 ≠ I) ∧ J i m' nw ∧ i ≤ n ∧ m = n + 1 - i := by
      rintro ⟨h₃', tk₃, m₂, nw₂, rfl, F₃, N₃, off₃, J₃⟩
      have N₃' : News h₀ L h₃' nw₂ := fun p hp => N₃ p (List.mem_cons_of_mem _ hp)
      exact ⟨n + 1 - (i + 1), by omega, h₃', tk₃, m₂, nw₂, i + 1, rfl, hSt _ _ _ _ _ hst₁ hoI (N₃ _ List.mem_cons_self).1 F₃.keep N₃' (hJS _ _ _ J₃), F₃, N₃', off₃, J₃, hlt, rfl⟩
    cases f with
    | ret v => exact hR _ _ h₃
    | brk => exact hR _ _ h₃
    | next => exact fin h₃
    | cont => exact fin h₃
  · obtain rfl : i = n := by omega
    refine W.done _ _ _ hst' fun h₁ tk₁ hk₁ => wpAny_execs_nil ?_
    exact hR _ _ (done m' nw h₁ tk₁ hJ' (LCg.fr_but F' hk₁ hIL hI₀) (LCg.news_but N' hk₁ off'))

theorem letGo_fields {target : Expr} {I : Addr} {o : Obj} {n : String} {vs : Array Value} {v : Value} {Q : Unit → Shared → Prop} (ho : s.heap.get? I = some o) (hc : o.cls = .type n) (hd : o.data = .fields vs)
    (hn : ["enumerate", "zip", "dict_itemiterator", "dict_reverseitemiterator", "odict_iterator", "itertools.zip_longest", "itertools.pairwise"].contains n = false) (hQ : Q () s) :
    wpAny (model prog w) A (letOwnedTupleGo target (.ref I) v) Q E s := by
  unfold letOwnedTupleGo
  split
  · split
    · rename_i e
      injection e with e1 e2
      injection e1 with e1
      subst e1
      refine wpAny_bind (wpAny_load ho ?_)
      rw [hc, hd]
      simp only [hn, Bool.false_and, Bool.false_eq_true, if_false]
      exact wpAny_pure hQ
    · exact wpAny_pure hQ
  · split
    · rename_i e
      injection e with e1 e2
      injection e1 with e1
      subst e1
      refine wpAny_bind (wpAny_load ho ?_)
      rw [hc, hd]
      simp only [hn, Bool.false_and, Bool.false_eq_true, if_false]
      exact wpAny_pure hQ
    · exact wpAny_pure hQ
  · exact wpAny_pure hQ

/-- for over a list that stands in the ledger or in the base -/
theorem For_list {target iter : Expr} {pos : Pos} {body : List Stmt} {Q : Flow → Shared → Prop}
    (h : wpAny (model prog w) A (eval iter env) (fun xv s₁ => ∃ (ax : Addr) (its : Array Value) (m : Str → Option Value) (news : List (Addr × Obj)) (J : Nat → (Str → Option Value) → List (Addr × Obj) → Prop), xv = .ref ax ∧ A.handled = none ∧ Fr h₀ L s₁.heap m ∧ News h₀ L s₁.heap news ∧ LCg.SrcAt h₀ ax its news ∧ J 0 m news ∧ (∀ i m nw, J i m nw → LCg.SrcAt h₀ ax its nw) ∧
      (∀ i v I m₁ nw oI h tk, its[i]? = some v → J i m₁ nw → Fr h₀ L h m₁ → News h₀ L h ((I, oI) :: nw) → (∀ p ∈ nw, p.1 ≠ I) →
        wpAny (model prog w) A (assign target env v) (fun _ s₂ => wpAny (model prog w) A (execs body env) (ForEnd h₀ L I oI (J (i + 1)) { s₁ with heap := h, toks := tk } Q) E s₂) E { s₁ with heap := h, toks := tk }) ∧
      (∀ m' nw h tk, J its.size m' nw → Fr h₀ L h m' → News h₀ L h nw → Q .next { s₁ with heap := h, toks := tk })) E s)
    (hs : ∀ x, foldedSetIterable iter env x = pure x := by intro _; rfl)
    (hE : PassesOwn (model prog w) A env E := by passes_own) :
    wpAny (model prog w) A (exec (.For target iter body [] pos) env) Q E s := by
  refine wpAny_For (wpAny_mono h (fun xv s₁ h₁ => ?_) fun _ _ e => e) hs
  obtain ⟨ax, its, m, news, J, rfl, hh, F, N, S, hJ, hJS, turn, done⟩ := h₁
  have hl := S.list F.keep N
  have hlt : ax < s₁.heap.objs.size := by obtain ⟨_, e, _⟩ := hl; exact Heap.lt_size e
  refine wpAny_pyIter_list hl ?_
  have up : ∀ b o, s₁.heap.get? b = some o → (s₁.heap.push { cls := .type "list_iterator", data := .fields #[.ref ax, .int 0 0] }).get? b = some o := fun b o e => Heap.get?_push_of_some _ e
  refine forLoop_J (R := fun r s' => match r with | .ok f => Q f s' | .error e => cameBackBy (model prog w) A env E e s') (Q := Q)
    (Walks.list hh s₁.heap.objs.size ax (Nat.ne_of_lt hlt) its) J (LCg.SrcAt h₀ ax its) (fun i h st => by obtain ⟨o, e, _⟩ := st.1; exact ⟨o, e⟩) LCg.list_st hJS (Nat.ne_of_lt F.ns.lt) (next_is_new F)
    (fun i s' v Q' E' st hQ' => by obtain ⟨o, e, hc, hd⟩ := st.1; exact letGo_fields e hc hd (by decide) hQ') ⟨⟨_, Heap.get?_push_size _ rfl, rfl, rfl⟩, hl.push _⟩ (F.keeps up) (N.grown up)
    (fun p hp => Nat.ne_of_lt (Heap.lt_size (N p hp).1)) hJ ?_ ?_ (fun f s' q => q)
  · intro i v m₁ nw oI h tk hi hP hJ' F₁ N₁ off₁
    exact wpAny_mono (turn i v _ m₁ nw oI h tk hP hJ' F₁ N₁ off₁) (fun _ s₂ q => wpAny_mono q (fun _ _ x => x) hE) hE
  · intro m' nw h tk hJ' F' N'
    exact done m' nw h tk hJ' F' N'

/-- for over a range by ones -/
theorem For_range {target iter : Expr} {pos : Pos} {body : List Stmt} {Q : Flow → Shared → Prop}
    (h : wpAny (model prog w) A (eval iter env) (fun xv s₁ => ∃ (r : Addr) (a b : Int) (t u v : Tok) (n : Nat) (m : Str → Option Value) (news : List (Addr × Obj)) (J : Nat → (Str → Option Value) → List (Addr × Obj) → Prop), xv = .ref r ∧ A.handled = none ∧ Fr h₀ L s₁.heap m ∧ News h₀ L s₁.heap news ∧ IsRange s₁.heap r a b 1 t u v ∧ Builtin.Range.small a b 1 = true ∧ Builtin.Range.rangeSize a b 1 = ((n : Nat) : Int) ∧ J 0 m news ∧
      (∀ i tk' I m₁ nw oI h tk, i < n → J i m₁ nw → Fr h₀ L h m₁ → News h₀ L h ((I, oI) :: nw) → (∀ p ∈ nw, p.1 ≠ I) →
        wpAny (model prog w) A (assign target env (.int (a + (i : Nat)) tk')) (fun _ s₂ => wpAny (model prog w) A (execs body env) (ForEnd h₀ L I oI (J (i + 1)) { s₁ with heap := h, toks := tk } Q) E s₂) E { s₁ with heap := h, toks := tk }) ∧
      (∀ m' nw h tk, J n m' nw → Fr h₀ L h m' → News h₀ L h nw → Q .next { s₁ with heap := h, toks := tk })) E s)
    (hs : ∀ x, foldedSetIterable iter env x = pure x := by intro _; rfl)
    (hE : PassesOwn (model prog w) A env E := by passes_own) :
    wpAny (model prog w) A (exec (.For target iter body [] pos) env) Q E s := by
  refine wpAny_For (wpAny_mono h (fun xv s₁ h₁ => ?_) fun _ _ e => e) hs
  obtain ⟨r, a, b, t, u, v, n, m, news, J, rfl, hh, F, N, hr, hsm, hn, hJ, turn, done⟩ := h₁
  refine wpAny_pyIter_range hr hsm ?_
  have up : ∀ c o, s₁.heap.get? c = some o → (s₁.heap.push { cls := .type "range_iterator", data := .fields #[rawInt a, rawInt (Builtin.Range.rangeSize a b 1), rawInt 1] }).get? c = some o := fun c o e => Heap.get?_push_of_some _ e
  refine forLoop_J (R := fun r s' => match r with | .ok f => Q f s' | .error e => cameBackBy (model prog w) A env E e s') (Q := Q)
    (LCg.range_walks hh a n) J (fun _ => True) (fun i h st => ⟨_, st⟩) LCg.range_st (fun _ _ _ _ => trivial) (Nat.ne_of_lt F.ns.lt) (next_is_new F)
    (fun i s' v Q' E' st hQ' => letGo_fields st rfl rfl (by decide) hQ') (by show IsRangeIter _ _ _ _ _; rw [hn]; simpa using Heap.get?_push_size _ rfl) (F.keeps up) (N.grown up)
    (fun p hp => Nat.ne_of_lt (Heap.lt_size (N p hp).1)) hJ ?_ ?_ (fun f s' q => q)
  · intro i v m₁ nw oI h tk hi hP hJ' F₁ N₁ off₁
    obtain ⟨tk', rfl⟩ := hP
    exact wpAny_mono (turn i tk' _ m₁ nw oI h tk hi hJ' F₁ N₁ off₁) (fun _ s₂ q => wpAny_mono q (fun _ _ x => x) hE) hE
  · intro m' nw h tk hJ' F' N'
    exact done m' nw h tk hJ' F' N'

/-- for over a set of ints of the ledger; the order is any -/
theorem For_set {target iter : Expr} {pos : Pos} {body : List Stmt} {Q : Flow → Shared → Prop}
    (h : wpAny (model prog w) A (eval iter env) (fun xv s₁ => ∃ a o ks m news, xv = .ref a ∧ A.handled = none ∧ Fr h₀ L s₁.heap m ∧ News h₀ L s₁.heap news ∧ (a, o) ∈ news ∧ SetIs w o ks ∧
      ∀ ord : List Int, List.Perm ord ks → ∃ J : Nat → (Str → Option Value) → List (Addr × Obj) → Prop, J 0 m news ∧ (∀ i m nw, J i m nw → (a, o) ∈ nw) ∧
      (∀ i k tk' I m₁ nw oI h tk, ord[i]? = some k → J i m₁ nw → Fr h₀ L h m₁ → News h₀ L h ((I, oI) :: nw) → (∀ p ∈ nw, p.1 ≠ I) →
        wpAny (model prog w) A (assign target env (.int k tk')) (fun _ s₂ => wpAny (model prog w) A (execs body env) (ForEnd h₀ L I oI (J (i + 1)) { s₁ with heap := h, toks := tk } Q) E s₂) E { s₁ with heap := h, toks := tk }) ∧
      (∀ m' nw h tk, J ord.length m' nw → Fr h₀ L h m' → News h₀ L h nw → Q .next { s₁ with heap := h, toks := tk })) E s)
    (hs : ∀ x, foldedSetIterable iter env x = pure x := by intro _; rfl)
    (hE : PassesOwn (model prog w) A env E := by passes_own) :
    wpAny (model prog w) A (exec (.For target iter body [] pos) env) Q E s := by
  refine wpAny_For (wpAny_mono h (fun xv s₁ h₁ => ?_) fun _ _ e => e) hs
  obtain ⟨a, o, ks, m, news, rfl, hh, F, N, ha, hset, rest⟩ := h₁
  obtain ⟨es, ep, t, hr, rfl⟩ := hset
  have hp := walkOf_perm w a ep es
  have hlen := hp.length_eq
  rw [Array.length_toList, Array.length_toList] at hlen
  obtain ⟨J, hJ, hJS, turn, done⟩ := rest ((walkOf w a ep es).toList.map ival) (hp.map ival)
  have hoa := (N _ ha).1
  have hlt : a < s₁.heap.objs.size := Heap.lt_size hoa
  refine pyIter_set hoa hr ?_
  have up : ∀ c oc, s₁.heap.get? c = some oc → (s₁.heap.push { cls := .type "set_iterator", data := .fields #[.int 0 0, .int 0 0, .ref a, .int es.size 0, .int ep 0] }).get? c = some oc := fun c oc e => Heap.get?_push_of_some _ e
  refine forLoop_J (R := fun r s' => match r with | .ok f => Q f s' | .error e => cameBackBy (model prog w) A env E e s') (Q := Q)
    (walks_set hh s₁.heap.objs.size a (Nat.ne_of_lt hlt) hr) J (fun nw => (a, o) ∈ nw) (fun i h st => by obtain ⟨o, e, _⟩ := st.1; exact ⟨o, e⟩) ?_ hJS (Nat.ne_of_lt F.ns.lt) (next_is_new F)
    (fun i s' v Q' E' st hQ' => by obtain ⟨o, e, hc, hd⟩ := st.1; exact letGo_fields e hc hd (by decide) hQ') ⟨⟨_, Heap.get?_push_size _ rfl, rfl, ?_⟩, Heap.get?_push_of_some _ hoa⟩ (F.keeps up) (N.grown up)
    (fun p hp => Nat.ne_of_lt (Heap.lt_size (N p hp).1)) hJ ?_ ?_ (fun f s' q => q)
  · intro i h h' o' nw st e e' k N' hS
    exact ⟨by obtain ⟨o'', q, r⟩ := st.1; rw [e] at q; cases q; exact ⟨o', e', r⟩, (N' _ hS).1⟩
  · have : slotAt w t 0 = 0 := by unfold slotAt; split <;> rfl
    rw [this]; rfl
  · rintro i v m₁ nw oI h tk hi ⟨e, he, rfl⟩ hJ' F₁ N₁ off₁
    have hm : e ∈ (walkOf w a ep es).toList := Array.mem_toList_iff.mpr (Array.mem_of_getElem? he)
    obtain ⟨tke, hetk⟩ := hr.2.2.2.2.2.1 e (hp.mem_iff.mp hm)
    have e2 : e.2 = .int (ival e) tke := congrArg Prod.snd hetk
    rw [e2]
    refine wpAny_mono (turn i (ival e) tke _ m₁ nw oI h tk ?_ hJ' F₁ N₁ off₁) (fun _ s₂ q => wpAny_mono q (fun _ _ x => x) hE) hE
    rw [List.getElem?_map, Array.getElem?_toList, he]; rfl
  · intro m' nw h tk hJ' F' N'
    exact done m' nw h tk (by rw [List.length_map, Array.length_toList, hlen]; exact hJ') F' N'
end
end Mine
end
section
open PySem PySem.W PyProof.Rows
set_option maxRecDepth 100000
namespace Mine
/-- what a call of f with these arguments does, from any frame below the module's heap -/
def Calls (w : World) (kd ku : Nat) (f : Addr) (args : List Value) (Pre : List (Addr × Obj) → Prop) (Post : List (Addr × Obj) → List (Addr × Obj) → Value → Prop) : Prop :=
  ∀ (mean : ExcName → Option Value) (mg mb : Str → Option Value) (dp un : Nat) (gd : Option (List Code)) (cn : Str) (cs : Scope) (a : Addr) (ccd : Value) (cl : List (Str × Addr)) (outer : List Env) (A₀ : Around) (base h₀ : Heap) (L : Addr) (m : Str → Option Value) (news : List (Addr × Obj)) (s : Shared)
    (Q E : Value → Shared → Prop),
    Below A₀ base outer h₀ → Fr h₀ L s.heap m → (hd.heap_39 w.params).In h₀ → News h₀ L s.heap news → Top hd.view_39 (looseW hd.view_39 [Str.ofString "BytesIO"]) mean mg mb h₀ → cs.kind = .function →
    dp + kd < recursionLimit → un + ku < cLine → Pre news →
    (∀ r news' h' tk', Fr h₀ L h' m → News h₀ L h' news' → Post news news' r → Q r { s with heap := h', toks := tk' }) →
    wpAny (model Challenge.rw_ft5007_01.row.prog w) (ktrTop dp un gd cn cs L a ccd cl outer) (call (.ref f) args) Q E s

/-- a bitmap in the ledger: x, its dict, its set b -/
def BM (w : World) (news : List (Addr × Obj)) (v : Value) (b : Addr) (S : List Int) : Prop :=
  ∃ (x dx : Addr) (c : Int) (t1 t2 t3 : Tok) (so : Obj) (ks : List Int), v = .ref x ∧ (x, instObj 188 dx) ∈ news ∧ (dx, bmD w.params b c t1 t2 t3) ∈ news ∧ (b, so) ∈ news ∧ SetIs w so ks ∧ ∀ i, i ∈ ks ↔ i ∈ S
theorem BM.mono {w : World} {news news' : List (Addr × Obj)} {v : Value} {b : Addr} {S : List Int} (h : BM w news v b S) (hs : ∀ p ∈ news, p ∈ news') : BM w news' v b S := by
  obtain ⟨x, dx, c, t1, t2, t3, so, ks, e, h1, h2, h3, h4⟩ := h
  exact ⟨x, dx, c, t1, t2, t3, so, ks, e, hs _ h1, hs _ h2, hs _ h3, h4⟩
theorem BM.same {w : World} {news : List (Addr × Obj)} {v : Value} {b : Addr} {S S' : List Int} (h : BM w news v b S) (e : ∀ i, i ∈ S ↔ i ∈ S') : BM w news v b S' := by
  obtain ⟨x, dx, c, t1, t2, t3, so, ks, e1, h1, h2, h3, h4, h5⟩ := h
  exact ⟨x, dx, c, t1, t2, t3, so, ks, e1, h1, h2, h3, h4, fun i => (h5 i).trans (e i)⟩
/-- a new bitmap atop the ledger -/
def BMnew (w : World) (S : List Int) (news news' : List (Addr × Obj)) (r : Value) : Prop :=
  ∃ (x dx b : Addr) (c : Int) (t1 t2 t3 : Tok) (so : Obj) (ks : List Int), r = .ref x ∧ news' = (b, so) :: (x, instObj 188 dx) :: (dx, bmD w.params b c t1 t2 t3) :: news ∧ (∀ p ∈ news, p.1 < dx) ∧ @LT.lt Nat _ dx x ∧ @LT.lt Nat _ x b ∧ SetIs w so ks ∧ ∀ i, i ∈ ks ↔ i ∈ S
theorem len_le {ks S : List Int} (hn : ks.Nodup) (h : ∀ i, i ∈ ks ↔ i ∈ S) : ks.length ≤ S.length := List.Nodup.length_le_of_subset hn fun i hi => (h i).1 hi
theorem len_eq {ks S : List Int} (hn : ks.Nodup) (hS : S.Nodup) (h : ∀ i, i ∈ ks ↔ i ∈ S) : ks.length = S.length :=
  Nat.le_antisymm (len_le hn h) (len_le hS fun i => (h i).symm)
theorem News.sub' {h₀ h : Heap} {L : Addr} {n n' : List (Addr × Obj)} (N : News h₀ L h n) (hs : ∀ p ∈ n', p ∈ n) : News h₀ L h n' := fun p hp => N p (hs p hp)
def Halt (p : Prop) : Prop := p
theorem halt {p : Prop} (h : Halt p) : p := h
theorem noraise {M : Model} {A : Around} {α : Type} {x : Sem α} {Q : α → Shared → Prop} {E : Value → Shared → Prop} {s : Shared} (h : wpAny M A x Q (fun _ _ => False) s) : wpAny M A x Q E s := wpAny_mono h (fun _ _ h => h) (fun _ _ h => h.elim)
section
variable {prog : Program} {w : World} {A : Around} {E : Value → Shared → Prop} {s : Shared} {env : Env} {h₀ : Heap} {L : Addr}
theorem For_listF {m₀ : Str → Option Value} {target iter : Expr} {pos : Pos} {body : List Stmt} {Q : Flow → Shared → Prop}
    (_ : Fr h₀ L s.heap m₀) (h : wpAny (model prog w) A (eval iter env) (fun xv s₁ => Halt (∃ (ax : Addr) (its : Array Value) (m : Str → Option Value) (news : List (Addr × Obj)) (J : Nat → (Str → Option Value) → List (Addr × Obj) → Prop), xv = .ref ax ∧ A.handled = none ∧ Fr h₀ L s₁.heap m ∧ News h₀ L s₁.heap news ∧ LCg.SrcAt h₀ ax its news ∧ J 0 m news ∧ (∀ i m nw, J i m nw → LCg.SrcAt h₀ ax its nw) ∧
      (∀ i v I m₁ nw oI h tk, its[i]? = some v → J i m₁ nw → Fr h₀ L h m₁ → News h₀ L h ((I, oI) :: nw) → (∀ p ∈ nw, p.1 ≠ I) →
        wpAny (model prog w) A (assign target env v) (fun _ s₂ => wpAny (model prog w) A (execs body env) (ForEnd h₀ L I oI (J (i + 1)) { s₁ with heap := h, toks := tk } Q) (fun _ _ => False) s₂) (fun _ _ => False) { s₁ with heap := h, toks := tk }) ∧
      (∀ m' nw h tk, J its.size m' nw → Fr h₀ L h m' → News h₀ L h nw → Q .next { s₁ with heap := h, toks := tk }))) (fun _ _ => False) s)
    (hs : ∀ x, foldedSetIterable iter env x = pure x := by intro _; rfl) :
    wpAny (model prog w) A (exec (.For target iter body [] pos) env) Q E s := by
  refine noraise (For_list (h₀ := h₀) (L := L) h hs ?_)
  exact fun _ _ h => h.elim
theorem For_rangeF {m₀ : Str → Option Value} {target iter : Expr} {pos : Pos} {body : List Stmt} {Q : Flow → Shared → Prop}
    (_ : Fr h₀ L s.heap m₀) (h : wpAny (model prog w) A (eval iter env) (fun xv s₁ => Halt (∃ (r : Addr) (a b : Int) (t u v : Tok) (n : Nat) (m : Str → Option Value) (news : List (Addr × Obj)) (J : Nat → (Str → Option Value) → List (Addr × Obj) → Prop), xv = .ref r ∧ A.handled = none ∧ Fr h₀ L s₁.heap m ∧ News h₀ L s₁.heap news ∧ IsRange s₁.heap r a b 1 t u v ∧ Builtin.Range.small a b 1 = true ∧ Builtin.Range.rangeSize a b 1 = ((n : Nat) : Int) ∧ J 0 m news ∧
      (∀ i tk' I m₁ nw oI h tk, i < n → J i m₁ nw → Fr h₀ L h m₁ → News h₀ L h ((I, oI) :: nw) → (∀ p ∈ nw, p.1 ≠ I) →
        wpAny (model prog w) A (assign target env (.int (a + (i : Nat)) tk')) (fun _ s₂ => wpAny (model prog w) A (execs body env) (ForEnd h₀ L I oI (J (i + 1)) { s₁ with heap := h, toks := tk } Q) (fun _ _ => False) s₂) (fun _ _ => False) { s₁ with heap := h, toks := tk }) ∧
      (∀ m' nw h tk, J n m' nw → Fr h₀ L h m' → News h₀ L h nw → Q .next { s₁ with heap := h, toks := tk }))) (fun _ _ => False) s)
    (hs : ∀ x, foldedSetIterable iter env x = pure x := by intro _; rfl) :
    wpAny (model prog w) A (exec (.For target iter body [] pos) env) Q E s := by
  refine noraise (For_range (h₀ := h₀) (L := L) h hs ?_)
  exact fun _ _ h => h.elim
theorem For_setF {m₀ : Str → Option Value} {target iter : Expr} {pos : Pos} {body : List Stmt} {Q : Flow → Shared → Prop}
    (_ : Fr h₀ L s.heap m₀) (h : wpAny (model prog w) A (eval iter env) (fun xv s₁ => Halt (∃ a o ks m news, xv = .ref a ∧ A.handled = none ∧ Fr h₀ L s₁.heap m ∧ News h₀ L s₁.heap news ∧ (a, o) ∈ news ∧ SetIs w o ks ∧
      ∀ ord : List Int, List.Perm ord ks → ∃ J : Nat → (Str → Option Value) → List (Addr × Obj) → Prop, J 0 m news ∧ (∀ i m nw, J i m nw → (a, o) ∈ nw) ∧
      (∀ i k tk' I m₁ nw oI h tk, ord[i]? = some k → J i m₁ nw → Fr h₀ L h m₁ → News h₀ L h ((I, oI) :: nw) → (∀ p ∈ nw, p.1 ≠ I) →
        wpAny (model prog w) A (assign target env (.int k tk')) (fun _ s₂ => wpAny (model prog w) A (execs body env) (ForEnd h₀ L I oI (J (i + 1)) { s₁ with heap := h, toks := tk } Q) (fun _ _ => False) s₂) (fun _ _ => False) { s₁ with heap := h, toks := tk }) ∧
      (∀ m' nw h tk, J ord.length m' nw → Fr h₀ L h m' → News h₀ L h nw → Q .next { s₁ with heap := h, toks := tk }))) (fun _ _ => False) s)
    (hs : ∀ x, foldedSetIterable iter env x = pure x := by intro _; rfl) :
    wpAny (model prog w) A (exec (.For target iter body [] pos) env) Q E s := by
  refine noraise (For_set (h₀ := h₀) (L := L) h hs ?_)
  exact fun _ _ h => h.elim
end

theorem Fr.but {h₀ h : Heap} {L : Addr} {m m₀ : Str → Option Value} {x : Str} {v : Option Value} (F : Fr h₀ L h (fun y => if y = x then v else m y)) (hm : ∀ y, y ≠ x → m y = m₀ y) : Fr h₀ L h (fun y => if y = x then v else m₀ y) := by
  have : (fun y => if y = x then v else m y) = (fun y => if y = x then v else m₀ y) := by funext y; split; rfl; rename_i e; exact hm y e
  exact this ▸ F
theorem Fr.at1 {h₀ h : Heap} {L : Addr} {m m₀ : Str → Option Value} {x : Str} (F : Fr h₀ L h m) (hm : ∀ y, y ≠ x → m y = m₀ y) : Fr h₀ L h (fun y => if y = x then m x else m₀ y) := by
  have : m = (fun y => if y = x then m x else m₀ y) := by funext y; split; rename_i e; exact e ▸ rfl; rename_i e; exact hm y e
  exact this ▸ F
/-- the target of a loop, a local name -/
theorem asgL {M : Model} {A : Around} {E : Value → Shared → Prop} {s : Shared} {h₀ : Heap} {L a : Addr} {cn x : Str} {cs : Scope} {ccd v : Value} {cl : List (Str × Addr)} {m m₀ : Str → Option Value} {news : List (Addr × Obj)} {pos : Pos} {Q : Unit → Shared → Prop}
    (F : Fr h₀ L s.heap m) (N : News h₀ L s.heap news) (hm : ∀ y, y ≠ x → m y = m₀ y)
    (h : ∀ h', Fr h₀ L h' (fun y => if y = x then some v else m₀ y) → News h₀ L h' news → Q () { s with heap := h', toks := s.toks + 1 })
    (hk : cs.kind = .function := by rfl) (hx : (envX cn cs L a ccd cl).kindOf x = some .local := by rfl) : wpAny M A (assign (.Name x pos) (envX cn cs L a ccd cl) v) Q E s :=
  wpAny_assign_Name (storeX_L F N (fun h' F' N' => h h' (Fr.but F' hm) N') hk hx)
/-- for over range(n) -/
theorem For_range0F {prog : Program} {w : World} {A : Around} {E : Value → Shared → Prop} {s : Shared} {env : Env} {h₀ : Heap} {L : Addr} {m₀ : Str → Option Value} {target iter : Expr} {pos : Pos} {body : List Stmt} {Q : Flow → Shared → Prop}
    (F : Fr h₀ L s.heap m₀) (hh : A.handled = none) (h : wpAny (model prog w) A (eval iter env) (fun xv s₁ => Halt (∃ (r : Addr) (n : Nat) (t u v : Tok) (m : Str → Option Value) (news : List (Addr × Obj)) (J : Nat → (Str → Option Value) → List (Addr × Obj) → Prop), xv = .ref r ∧ Fr h₀ L s₁.heap m ∧ News h₀ L s₁.heap news ∧ IsRange s₁.heap r 0 (n : Nat) 1 t u v ∧ n < 2 ^ 62 ∧ J 0 m news ∧
      (∀ i tk' I m₁ nw oI h tk, i < n → J i m₁ nw → Fr h₀ L h m₁ → News h₀ L h ((I, oI) :: nw) → (∀ p ∈ nw, p.1 ≠ I) →
        wpAny (model prog w) A (assign target env (.int (i : Nat) tk')) (fun _ s₂ => wpAny (model prog w) A (execs body env) (ForEnd h₀ L I oI (J (i + 1)) { s₁ with heap := h, toks := tk } Q) (fun _ _ => False) s₂) (fun _ _ => False) { s₁ with heap := h, toks := tk }) ∧
      (∀ m' nw h tk, J n m' nw → Fr h₀ L h m' → News h₀ L h nw → Q .next { s₁ with heap := h, toks := tk }))) (fun _ _ => False) s)
    (hs : ∀ x, foldedSetIterable iter env x = pure x := by intro _; rfl) :
    wpAny (model prog w) A (exec (.For target iter body [] pos) env) Q E s := by
  refine For_rangeF F (wpAny_mono h (fun xv s₁ hx => ?_) fun _ _ h => h) hs
  obtain ⟨r, n, t, u, v, m, news, J, e, F1, N1, hr, hn, hJ, turn, done⟩ := hx
  refine ⟨r, 0, n, t, u, v, n, m, news, J, e, hh, F1, N1, hr, small_one (by omega) (by omega) (by omega) (by omega), by rw [rangeSize_nat]; congr 1, hJ, ?_, done⟩
  intro i tk' I m₁ nw oI h tk hi hJ F2 N2 off
  rw [Int.zero_add]
  exact turn i tk' I m₁ nw oI h tk hi hJ F2 N2 off
section
variable {prog : Program} {w : World} {A : Around} {E : Value → Shared → Prop} {s : Shared} {h₀ : Heap} {L : Addr} {m : Str → Option Value} {news : List (Addr × Obj)}
theorem range_N {Q : Value → Shared → Prop} {n : Int} {t : Tok} (F : Fr h₀ L s.heap m) (N : News h₀ L s.heap news)
    (h : ∀ r h' tk t₁ u₁ v₁, IsRange h' r 0 n 1 t₁ u₁ v₁ → Fr h₀ L h' m → News h₀ L h' news → Q (.ref r) { s with heap := h', toks := tk }) :
    wpAny (model prog w) A (call (.type "range") [.int n t]) Q E s :=
  range1_rows F N fun h' tk t₁ u₁ v₁ a b c _ => h _ h' tk t₁ u₁ v₁ a b c
theorem natPow {k : Nat} {t u : Tok} {Q : Value → Shared → Prop} (hk : k < 1000) (h : Q (.int ((2 ^ k : Nat) : Int) s.toks) { s with toks := s.toks + 1 }) : wpAny (model prog w) A (binaryOp .Pow (.int 2 t) (.int (k : Nat) u)) Q E s :=
  pow_int_small (by omega) (by omega) (by decide) (by rw [Int.toNat_natCast]; simpa using h)
theorem natDiv {a b : Nat} {t u : Tok} {Q : Value → Shared → Prop} (hb : b ≠ 0) (hb' : b < 1073741824) (h : Q (.int ((a / b : Nat) : Int) s.toks) { s with toks := s.toks + 1 }) : wpAny (model prog w) A (binaryOp .FloorDiv (.int (a : Nat) t) (.int (b : Nat) u)) Q E s :=
  floordiv_int (by omega) (by rw [Int.fdiv_eq_ediv_of_nonneg _ (by omega)]; simpa using h) (Or.inl (PyProof.noPylong_small (by omega)))
theorem natDivPow {a k : Nat} {t u : Tok} {Q : Value → Shared → Prop} (hk : k < 30) (h : Q (.int ((a / 2 ^ k : Nat) : Int) s.toks) { s with toks := s.toks + 1 }) : wpAny (model prog w) A (binaryOp .FloorDiv (.int (a : Nat) t) (.int ((2 ^ k : Nat) : Int) u)) Q E s :=
  natDiv (Nat.ne_of_gt (Nat.two_pow_pos _)) (show 2 ^ k < 2 ^ 30 from Nat.pow_lt_pow_right (by decide) hk) h
theorem natMod {a b : Nat} {t u : Tok} {Q : Value → Shared → Prop} (hb : b ≠ 0) (h : Q (.int ((a % b : Nat) : Int) s.toks) { s with toks := s.toks + 1 }) : wpAny (model prog w) A (binaryOp .Mod (.int (a : Nat) t) (.int (b : Nat) u)) Q E s :=
  mod_int' (by omega) (by rw [Int.fmod_eq_emod_of_nonneg _ (by omega)]; simpa using h)
end
theorem News.drop2 {h₀ h : Heap} {L : Addr} {p1 p2 p3 p4 : Addr × Obj} {l : List (Addr × Obj)} (N : News h₀ L h (p1 :: p2 :: p3 :: p4 :: l)) : News h₀ L h (p1 :: p3 :: p4 :: l) :=
  News.sub' N fun p hp => by simp only [List.mem_cons] at hp ⊢; rcases hp with h | h | h | h <;> simp [h]
theorem iff_xor {S S' S'' ks js rs : List Int} (hS : ∀ i, i ∈ S'' ↔ ¬ (i ∈ S ↔ i ∈ S')) (h1 : ∀ i, i ∈ ks ↔ i ∈ S) (h2 : ∀ i, i ∈ js ↔ i ∈ S') (h : ∀ i, i ∈ rs ↔ ¬ (i ∈ ks ↔ i ∈ js)) : ∀ i, i ∈ rs ↔ i ∈ S'' :=
  fun i => by rw [h, h1, h2, hS]
theorem iff_and {S S' S'' ks js rs : List Int} (hS : ∀ i, i ∈ S'' ↔ (i ∈ S ∧ i ∈ S')) (h1 : ∀ i, i ∈ ks ↔ i ∈ S) (h2 : ∀ i, i ∈ js ↔ i ∈ S') (h : ∀ i, i ∈ rs ↔ (i ∈ ks ∧ i ∈ js)) : ∀ i, i ∈ rs ↔ i ∈ S'' :=
  fun i => by rw [h, h1, h2, hS]
end Mine
end
section
open PySem PySem.W PyProof.Rows
set_option maxRecDepth 100000
namespace Mine
/-- the places that a mask selects -/
def sel : List Int → Nat → List Int
  | [], _ => []
  | p :: ps, M => if M % 2 = 1 then p :: sel ps (M / 2) else sel ps (M / 2)
theorem mem_sel : ∀ {pl : List Int} {M : Nat} {z : Int}, z ∈ sel pl M ↔ ∃ j, M / 2 ^ j % 2 = 1 ∧ pl[j]? = some z
  | [], M, z => by simp [sel]
  | p :: ps, M, z => by
    have ih := mem_sel (pl := ps) (M := M / 2) (z := z)
    have key : z ∈ sel (p :: ps) M ↔ (M % 2 = 1 ∧ z = p) ∨ z ∈ sel ps (M / 2) := by
      rw [show sel (p :: ps) M = if M % 2 = 1 then p :: sel ps (M / 2) else sel ps (M / 2) from rfl]; split
      · rename_i h; simp [h]
      · rename_i h; simp [h]
    rw [key, ih]
    constructor
    · rintro (⟨h, rfl⟩ | ⟨j, h, e⟩)
      · exact ⟨0, by simpa using h, rfl⟩
      · exact ⟨j + 1, by rw [Nat.pow_succ, Nat.mul_comm, ← Nat.div_div_eq_div_mul]; exact h, e⟩
    · rintro ⟨j, h, e⟩
      cases j with
      | zero => exact .inl ⟨by simpa using h, by simpa using e.symm⟩
      | succ j => exact .inr ⟨j, by rw [Nat.pow_succ, Nat.mul_comm, ← Nat.div_div_eq_div_mul] at h; exact h, e⟩
/-- all words over these masks -/
def allM (ms : List Nat) : List Nat := ms.foldl (fun ws m => ws ++ ws.map (fun x => x ^^^ m)) [0]
/-- pairs (bitmap, mask) -/
def PairsAre (w : World) (pl : List Int) (tl : List (Addr × Obj)) (its : Array Value) (Ws : List Nat) : Prop :=
  its.size = Ws.length ∧ ∀ (i : Nat) (v : Value) (W : Nat), its[i]? = some v → Ws[i]? = some W → ∃ (t : Addr) (ot : Obj) (bv : Value) (tk : Tok) (nt : Nat) (b : Addr), v = .ref t ∧ (t, ot) ∈ tl ∧ ot.cls = .type "tuple" ∧ ot.data = .seq #[bv, .int (W : Nat) tk] nt ∧ BM w tl bv b (sel pl W)
/-- a list of bitmaps -/
def SetsAre (w : World) (pl : List Int) (news : List (Addr × Obj)) (vs : Array Value) (ms : List Nat) : Prop :=
  vs.size = ms.length ∧ ∀ (i : Nat) (v : Value) (M : Nat), vs[i]? = some v → ms[i]? = some M → ∃ b, BM w news v b (sel pl M)
def MasksAre (mvs : Array Value) (ms : List Nat) : Prop := mvs.size = ms.length ∧ ∀ (i : Nat) (v : Value) (M : Nat), mvs[i]? = some v → ms[i]? = some M → ∃ t, v = .int (M : Nat) t
section
variable {prog : Program} {w : World} {A : Around} {E : Value → Shared → Prop} {s : Shared} {h₀ : Heap} {L : Addr} {m : Str → Option Value} {env : Env}
open LCg LCp
theorem compU_ind {elt : Expr} {x : Str} {scope : Scope} {cl : List (Str × Addr)} {S : List (Addr × Obj) → Prop} {P : Nat → Value → Prop} {Fin : List Value → List (Addr × Obj) → Prop} {n : Nat} {news : List (Addr × Obj)}
    (J : Nat → List Value → List (Addr × Obj) → Prop) (h0 : J 0 [] news) (fin : ∀ ys nw, J n ys nw → Fin ys nw)
    (step : ∀ i ys nw v, i < n → J i ys nw → P i v → ∀ I oI C oC D m₂ h tk (E' : Value → Shared → Prop), NsObj oC m₂ → m₂ x = some v → Fr h₀ L h m → News h₀ L h ((I, oI) :: (C, oC) :: (D, lst ys) :: nw) → Off3 I C D nw → ((@Ne Nat I C) ∧ (@Ne Nat I D) ∧ (@Ne Nat C D)) →
      wpAny (model prog w) A (eval elt (compEnvC scope cl C env)) (CompEnd h₀ L m { s with heap := h, toks := tk } I oI C oC D (lst ys) S (fun y news' => J (i + 1) (ys ++ [y]) news')) E' { s with heap := h, toks := tk }) :
    CompRest prog w A h₀ L m env elt x scope cl s S P Fin n 0 [] news := by
  have key : ∀ k i ys nw, i + k = n → J i ys nw → CompRest prog w A h₀ L m env elt x scope cl s S P Fin k i ys nw := by
    intro k
    induction k with
    | zero => intro i ys nw e hJ; exact CompRest.zero (fin ys nw (by rw [← e]; exact hJ))
    | succ k ih =>
      intro i ys nw e hJ
      refine CompRest.succ fun v I oI C oC D m₂ h tk E' hP hns hx F N off ne => ?_
      refine wpAny_mono (step i ys nw v (by omega) hJ hP I oI C oC D m₂ h tk E' hns hx F N off ne) (fun y s₂ q => ?_) fun _ _ e => e
      obtain ⟨h', tk', news', e1, F', N', off', hS, r⟩ := q
      exact ⟨h', tk', news', e1, F', N', off', hS, ih _ _ _ (by omega) r⟩
  exact key n 0 [] news (by omega) h0
theorem compP_ind {elt : Expr} {x x₂ : Str} {scope : Scope} {cl : List (Str × Addr)} {S : List (Addr × Obj) → Prop} {P : Nat → Value → Prop} {Fin : List Value → List (Addr × Obj) → Prop} {n : Nat} {news : List (Addr × Obj)}
    (J : Nat → List Value → List (Addr × Obj) → Prop) (h0 : J 0 [] news) (fin : ∀ ys nw, J n ys nw → Fin ys nw)
    (step : ∀ i ys nw v, i < n → J i ys nw → P i v → ∃ (t : Addr) (ot : Obj) (v₁ v₂ : Value) (nt : Nat), v = .ref t ∧ (t, ot) ∈ nw ∧ ot.cls = .type "tuple" ∧ ot.data = .seq #[v₁, v₂] nt ∧
      ∀ I oI C oC D m₂ h tk (E' : Value → Shared → Prop), NsObj oC m₂ → m₂ x = some v₁ → m₂ x₂ = some v₂ → Fr h₀ L h m → News h₀ L h ((I, oI) :: (C, oC) :: (D, lst ys) :: nw) → Off3 I C D nw → ((@Ne Nat I C) ∧ (@Ne Nat I D) ∧ (@Ne Nat C D)) →
      wpAny (model prog w) A (eval elt (compEnvC scope cl C env)) (CompEnd h₀ L m { s with heap := h, toks := tk } I oI C oC D (lst ys) S (fun y news' => J (i + 1) (ys ++ [y]) news')) E' { s with heap := h, toks := tk }) :
    CompRestP prog w A h₀ L m env elt x x₂ scope cl s S P Fin n 0 [] news := by
  have key : ∀ k i ys nw, i + k = n → J i ys nw → CompRestP prog w A h₀ L m env elt x x₂ scope cl s S P Fin k i ys nw := by
    intro k
    induction k with
    | zero => intro i ys nw e hJ; exact CompRestP.zero (fin ys nw (by rw [← e]; exact hJ))
    | succ k ih =>
      intro i ys nw e hJ
      refine CompRestP.succ fun v hP => ?_
      obtain ⟨t, ot, v₁, v₂, nt, e1, h1, h2, h3, go⟩ := step i ys nw v (by omega) hJ hP
      refine ⟨t, ot, v₁, v₂, nt, e1, h1, h2, h3, fun I oI C oC D m₂ h tk E' hns hx hx₂ F N off ne => ?_⟩
      refine wpAny_mono (go I oI C oC D m₂ h tk E' hns hx hx₂ F N off ne) (fun y s₂ q => ?_) fun _ _ e => e
      obtain ⟨h', tk', news', e1, F', N', off', hS, r⟩ := q
      exact ⟨h', tk', news', e1, F', N', off', hS, ih _ _ _ (by omega) r⟩
  exact key n 0 [] news (by omega) h0
end
theorem updF_app {a : Addr} {o : Obj} {news tl : List (Addr × Obj)} {g : Obj → List (Addr × Obj)} (h : ∀ p ∈ tl, p.1 ≠ a) (U : UpdF a o news g) : UpdF a o (tl ++ news) (fun o' => tl ++ g o') := by
  induction tl with
  | nil => exact U
  | cons p tl ih => exact UpdF.tail (h p (.head _)) (ih fun q hq => h q (.tail _ hq))
end Mine
end
section
open PySem PySem.W PyProof.Rows
set_option maxRecDepth 100000
namespace Mine
theorem bit_iff (M j : Nat) : M / 2 ^ j % 2 = 1 ↔ M.testBit j = true := by rw [Nat.testBit_eq_decide_div_mod_eq, decide_eq_true_iff]
theorem xor_and_add (a b : Nat) : (a ^^^ b) + 2 * (a &&& b) = a + b := by
  induction a using Nat.strongRecOn generalizing b with
  | _ a ih =>
    by_cases h : a = 0
    · subst h; simp
    · have e1 : (a ^^^ b) / 2 = a / 2 ^^^ b / 2 := Nat.eq_of_testBit_eq fun i => by simp only [Nat.testBit_div_two, Nat.testBit_xor]
      have e2 : (a &&& b) / 2 = a / 2 &&& b / 2 := Nat.eq_of_testBit_eq fun i => by simp only [Nat.testBit_div_two, Nat.testBit_and]
      have e3 : (a ^^^ b) % 2 = 1 ↔ ¬ (a % 2 = 1 ↔ b % 2 = 1) := by
        rw [Nat.mod_two_eq_one_iff_testBit_zero, Nat.mod_two_eq_one_iff_testBit_zero, Nat.mod_two_eq_one_iff_testBit_zero, Nat.testBit_xor]
        cases a.testBit 0 <;> cases b.testBit 0 <;> simp
      have e4 : (a &&& b) % 2 = 1 ↔ (a % 2 = 1 ∧ b % 2 = 1) := by
        rw [Nat.mod_two_eq_one_iff_testBit_zero, Nat.mod_two_eq_one_iff_testBit_zero, Nat.mod_two_eq_one_iff_testBit_zero, Nat.testBit_and]
        cases a.testBit 0 <;> cases b.testBit 0 <;> simp
      have := ih (a / 2) (by omega) (b / 2)
      rw [← e1, ← e2] at this
      omega
theorem bitAnd_nat (a b : Nat) : Builtin.bitAnd (a : Int) (b : Int) = ((a &&& b : Nat) : Int) := by
  unfold Builtin.bitAnd
  simp
theorem bitXor_nat (a b : Nat) : Builtin.bitXor (a : Int) (b : Int) = ((a ^^^ b : Nat) : Int) := by
  rw [bitXor_and, bitAnd_nat]
  have := xor_and_add a b
  omega
theorem sel_zero : ∀ pl : List Int, sel pl 0 = []
  | [] => rfl
  | p :: ps => by rw [show sel (p :: ps) 0 = sel ps (0 / 2) from rfl]; exact sel_zero ps
theorem at_unique {pl : List Int} (hn : pl.Nodup) {i j : Nat} {z : Int} (h : pl[i]? = some z) (h' : pl[j]? = some z) : i = j := by
  obtain ⟨hi, rfl⟩ := List.getElem?_eq_some_iff.mp h
  obtain ⟨hj, e⟩ := List.getElem?_eq_some_iff.mp h'
  exact ((List.getElem_inj hn).1 e).symm
theorem sel_at {pl : List Int} (hn : pl.Nodup) {j M : Nat} {z : Int} (h : pl[j]? = some z) : z ∈ sel pl M ↔ M.testBit j = true := by
  rw [mem_sel]
  constructor
  · rintro ⟨i, hi, e⟩; rw [at_unique hn h e, ← bit_iff]; exact hi
  · intro hb; exact ⟨j, (bit_iff _ _).2 hb, h⟩
theorem sel_sub {pl : List Int} {M : Nat} {z : Int} (h : z ∈ sel pl M) : ∃ j : Nat, pl[j]? = some z := by obtain ⟨j, _, e⟩ := mem_sel.1 h; exact ⟨j, e⟩
theorem sel_xor {pl : List Int} (hn : pl.Nodup) (W M : Nat) (z : Int) : z ∈ sel pl (W ^^^ M) ↔ ¬ (z ∈ sel pl W ↔ z ∈ sel pl M) := by
  by_cases h : ∃ j : Nat, pl[j]? = some z
  · obtain ⟨j, e⟩ := h
    rw [sel_at hn e, sel_at hn e, sel_at hn e, Nat.testBit_xor]
    cases W.testBit j <;> cases M.testBit j <;> simp
  · have : ∀ M, z ∉ sel pl M := fun M hz => h (sel_sub hz)
    simp [this]
theorem sel_and {pl : List Int} (hn : pl.Nodup) (W M : Nat) (z : Int) : z ∈ sel pl (W &&& M) ↔ (z ∈ sel pl W ∧ z ∈ sel pl M) := by
  by_cases h : ∃ j : Nat, pl[j]? = some z
  · obtain ⟨j, e⟩ := h
    rw [sel_at hn e, sel_at hn e, sel_at hn e, Nat.testBit_and]
    cases W.testBit j <;> cases M.testBit j <;> simp
  · have : ∀ M, z ∉ sel pl M := fun M hz => h (sel_sub hz)
    simp [this]
theorem sel_len : ∀ (pl : List Int) (M : Nat), (sel pl M).length ≤ pl.length
  | [], _ => Nat.le_refl _
  | p :: ps, M => by
    rw [show sel (p :: ps) M = if M % 2 = 1 then p :: sel ps (M / 2) else sel ps (M / 2) from rfl]
    have := sel_len ps (M / 2)
    split <;> simp only [List.length_cons] <;> omega
theorem sel_subl : ∀ (pl : List Int) (M : Nat), (sel pl M).Sublist pl
  | [], _ => List.Sublist.refl _
  | p :: ps, M => by
    rw [show sel (p :: ps) M = if M % 2 = 1 then p :: sel ps (M / 2) else sel ps (M / 2) from rfl]
    have := sel_subl ps (M / 2)
    split
    · exact this.cons_cons p
    · exact this.cons p
theorem sel_nodup {pl : List Int} (hn : pl.Nodup) (M : Nat) : (sel pl M).Nodup := hn.sublist (sel_subl pl M)
section
variable {prog : Program} {w : World} {A : Around} {E : Value → Shared → Prop} {s : Shared} {h₀ : Heap} {L : Addr} {m : Str → Option Value} {news : List (Addr × Obj)}
theorem natMod2 {a : Nat} {t u : Tok} {Q : Value → Shared → Prop} (h : Q (.int ((a % 2 : Nat) : Int) s.toks) { s with toks := s.toks + 1 }) : wpAny (model prog w) A (binaryOp .Mod (.int (a : Nat) t) (.int 2 u)) Q E s := natMod (b := 2) (by decide) h
theorem natXor {a b : Nat} {t u : Tok} {Q : Value → Shared → Prop} (h : Q (.int ((a ^^^ b : Nat) : Int) s.toks) { s with toks := s.toks + 1 }) : wpAny (model prog w) A (binaryOp .BitXor (.int (a : Nat) t) (.int (b : Nat) u)) Q E s :=
  xor_int (by rw [bitXor_nat]; exact h)
theorem natAnd {a b : Nat} {t u : Tok} {Q : Value → Shared → Prop} (h : Q (.int ((a &&& b : Nat) : Int) s.toks) { s with toks := s.toks + 1 }) : wpAny (model prog w) A (binaryOp .BitAnd (.int (a : Nat) t) (.int (b : Nat) u)) Q E s :=
  and_int (by rw [bitAnd_nat]; exact h)
theorem itemL_N {value slice : PySem.Expr} {l : Addr} {its : Array Value} {n i : Nat} {u : Tok} {v : Value} {Q : Value → Shared → Prop} (N : News h₀ L s.heap news) (hm : (l, listOf its n) ∈ news) (hi : i < 2 ^ 62) (hx : its[i]? = some v) (h : Q v s)
    (hs : subscripted slice false (.ref l) (.int i u) = operate [.ref l, .int i u] (getItem (.ref l) (.int i u)) := by with_unfolding_all rfl) :
    wpAny (model prog w) A (subscriptTail value slice (.ref l) (.int (i : Nat) u)) Q E s :=
  tail_any (News.isList N hm).typeIs slot_list_getitem.lookup (wpAny_getItem_list (News.isList N hm) (by omega) (by omega) (by rw [Int.toNat_natCast]; exact hx) h) hs
theorem addL_N {a b : Addr} {its its2 : Array Value} {n n2 : Nat} {Q : Value → Shared → Prop} (F : Fr h₀ L s.heap m) (N : News h₀ L s.heap news) (ha : (a, listOf its n) ∈ news) (hb : (b, listOf its2 n2) ∈ news) (hz : its.size + its2.size ≤ 16384)
    (h : ∀ D h', Fr h₀ L h' m → News h₀ L h' ((D, listOf (its ++ its2) 0) :: news) → (∀ p ∈ news, p.1 < D) → Q (.ref D) { s with heap := h' }) : wpAny (model prog w) A (binaryOp .Add (.ref a) (.ref b)) Q E s := by
  refine kmk_add_lit F N (News.isList N ha) (News.isList N hb) rfl (fun D h' F' N' l => h D h' F' ?_ l) (by simp only [Array.length_toList]; exact Nat.le_trans hz (by decide))
  have e : (its.toList ++ its2.toList).toArray = its ++ its2 := by rw [← Array.toList_append, Array.toArray_toList]
  exact e ▸ N'
end
section
variable {w : World} {pl : List Int} {tl tl' : List (Addr × Obj)}
theorem PairsAre.mono {its : Array Value} {Ws : List Nat} (h : PairsAre w pl tl its Ws) (hs : ∀ p ∈ tl, p ∈ tl') : PairsAre w pl tl' its Ws := by
  refine ⟨h.1, fun i v W hv hW => ?_⟩
  obtain ⟨t, ot, bv, tk, nt, b, e, h1, h2, h3, h4⟩ := h.2 i v W hv hW
  exact ⟨t, ot, bv, tk, nt, b, e, hs _ h1, h2, h3, h4.mono hs⟩
theorem PairsAre.app {its its' : Array Value} {Ws Ws' : List Nat} (h : PairsAre w pl tl its Ws) (h' : PairsAre w pl tl its' Ws') : PairsAre w pl tl (its ++ its') (Ws ++ Ws') := by
  refine ⟨by rw [Array.size_append, List.length_append, h.1, h'.1], fun i v W hv hW => ?_⟩
  by_cases hi : i < its.size
  · rw [Array.getElem?_append_left hi] at hv
    rw [List.getElem?_append_left (by rw [← h.1]; exact hi)] at hW
    exact h.2 i v W hv hW
  · rw [Array.getElem?_append_right (by omega)] at hv
    rw [List.getElem?_append_right (by rw [← h.1]; omega), ← h.1] at hW
    exact h'.2 _ v W hv hW
theorem PairsAre.one {t : Addr} {ot : Obj} {bv : Value} {tk : Tok} {nt : Nat} {b : Addr} {W : Nat} (h1 : (t, ot) ∈ tl) (h2 : ot.cls = .type "tuple") (h3 : ot.data = .seq #[bv, .int (W : Nat) tk] nt) (h4 : BM w tl bv b (sel pl W)) : PairsAre w pl tl #[.ref t] [W] := by
  refine ⟨rfl, fun i v W' hv hW => ?_⟩
  cases i with
  | zero => simp at hv hW; subst hv; subst hW; exact ⟨t, ot, bv, tk, nt, b, rfl, h1, h2, h3, h4⟩
  | succ i => simp at hW
theorem PairsAre.snoc {ys : List Value} {Ws : List Nat} {j W : Nat} {v : Value} {f : Nat → Nat} (hW : Ws[j]? = some W) (h : PairsAre w pl tl ys.toArray ((Ws.take j).map f)) (h1 : PairsAre w pl tl #[v] [f W]) : PairsAre w pl tl (ys ++ [v]).toArray ((Ws.take (j + 1)).map f) := by
  have e1 : (ys ++ [v]).toArray = ys.toArray ++ #[v] := by simp
  have e2 : (Ws.take (j + 1)).map f = (Ws.take j).map f ++ [f W] := by
    rw [List.take_add_one, hW]; simp
  rw [e1, e2]
  exact h.app h1
theorem sub_rot {a b c d e f g : Addr × Obj} {l : List (Addr × Obj)} : ∀ p ∈ e :: f :: g :: a :: b :: c :: d :: l, p ∈ a :: b :: c :: d :: e :: f :: g :: l := by
  intro p hp; simp only [List.mem_cons] at hp ⊢; rcases hp with h | h | h | h | h | h | h | h <;> simp [h]
theorem sub_lift {a b c : Addr × Obj} {l1 l2 l3 : List (Addr × Obj)} : ∀ p ∈ c :: ((a :: (l1 ++ l2)) ++ l3), p ∈ a :: b :: (l1 ++ c :: (l2 ++ l3)) := by
  intro p hp
  simp only [List.mem_cons, List.mem_append] at hp ⊢
  rcases hp with h | (h | h | h) | h <;> simp [h]
theorem allM_snoc (ms : List Nat) (m : Nat) : allM (ms ++ [m]) = allM ms ++ (allM ms).map (fun x => x ^^^ m) := by
  unfold allM; rw [List.foldl_append]; rfl
theorem allM_len (ms : List Nat) : (allM ms).length = 2 ^ ms.length := by
  suffices h : ∀ ws : List Nat, (ms.foldl (fun ws m => ws ++ ws.map (fun x => x ^^^ m)) ws).length = ws.length * 2 ^ ms.length by
    unfold allM; rw [h]; simp
  induction ms with
  | nil => intro ws; simp
  | cons m ms ih => intro ws; rw [List.foldl_cons, ih, List.length_append, List.length_map, List.length_cons, Nat.pow_succ, ← Nat.mul_two, Nat.mul_assoc, Nat.mul_comm 2]
end
theorem Calls.use {w : World} {kd ku : Nat} {f : Addr} {args : List Value} {Pre : List (Addr × Obj) → Prop} {Post : List (Addr × Obj) → List (Addr × Obj) → Value → Prop} (C : Calls w kd ku f args Pre Post)
    {mean : ExcName → Option Value} {mg mb : Str → Option Value} {dp un : Nat} {gd : Option (List Code)} {cn : Str} {cs : Scope} {a : Addr} {ccd : Value} {cl : List (Str × Addr)} {outer : List Env} {A₀ : Around} {base h₀ : Heap} {L : Addr} {m : Str → Option Value} {news : List (Addr × Obj)} {s : Shared}
    {Q E : Value → Shared → Prop} (B : Below A₀ base outer h₀) (F : Fr h₀ L s.heap m) (X : (hd.heap_39 w.params).In h₀) (N : News h₀ L s.heap news) (T : Top hd.view_39 (looseW hd.view_39 [Str.ofString "BytesIO"]) mean mg mb h₀) (hk : cs.kind = .function)
    (hdp : dp + kd < recursionLimit) (hun : un + ku < cLine) (pre : Pre news) (ret : ∀ r news' h' tk', Fr h₀ L h' m → News h₀ L h' news' → Post news news' r → Q r { s with heap := h', toks := tk' }) :
    wpAny (model Challenge.rw_ft5007_01.row.prog w) (ktrTop dp un gd cn cs L a ccd cl outer) (call (.ref f) args) Q E s := C _ _ _ _ _ _ _ _ _ _ _ _ _ _ _ _ _ _ _ _ _ B F X N T hk hdp hun pre ret
theorem fm_bd (x : Int) : 0 ≤ x.fmod 2147483647 ∧ x.fmod 2147483647 < 2147483647 := by
  rw [Int.fmod_eq_emod_of_nonneg _ (by decide)]; omega
theorem Fr.swap {h₀ h : Heap} {L : Addr} {m : Str → Option Value} {x z : Str} {u v : Option Value} (hxz : x ≠ z) (F : Fr h₀ L h (fun y => if y = x then u else if y = z then v else m y)) : Fr h₀ L h (fun y => if y = z then v else if y = x then u else m y) := by
  have : (fun y => if y = x then u else if y = z then v else m y) = (fun y => if y = z then v else if y = x then u else m y) := by
    funext y
    by_cases h1 : y = x
    · subst h1; rw [if_pos rfl, if_neg hxz, if_pos rfl]
    · simp only [if_neg h1]
  exact this ▸ F
end Mine
end
section
open PySem PySem.W PyProof.Rows
set_option maxRecDepth 100000
namespace Mine
/-- m but for these names m₀ -/
def ov (m m₀ : Str → Option Value) : List Str → Str → Option Value
  | [] => m₀
  | a :: l => fun y => if y = a then m a else ov m m₀ l y
theorem ov_eq {m m₀ : Str → Option Value} : ∀ {l : List Str}, (∀ y, y ∉ l → m y = m₀ y) → ov m m₀ l = m
  | [], h => by funext y; exact (h y (by simp)).symm
  | a :: l, h => by
    funext y
    show (if y = a then m a else ov m m₀ l y) = m y
    by_cases e : y = a
    · rw [if_pos e, e]
    · rw [if_neg e]
      by_cases hy : y ∈ l
      · have key : ∀ {l : List Str}, y ∈ l → ov m m₀ l y = m y := by
          intro l
          induction l with
          | nil => intro h; cases h
          | cons b l ih =>
            intro h
            show (if y = b then m b else ov m m₀ l y) = m y
            by_cases e : y = b
            · rw [if_pos e, e]
            · rw [if_neg e]; rcases List.mem_cons.mp h with h | h; exact absurd h e; exact ih h
        exact key hy
      · have key : ∀ {l : List Str}, y ∉ l → ov m m₀ l y = m₀ y := by
          intro l
          induction l with
          | nil => intro _; rfl
          | cons b l ih =>
            intro h
            show (if y = b then m b else ov m m₀ l y) = m₀ y
            rw [if_neg (fun e : y = b => h (by rw [e]; exact List.mem_cons_self))]
            exact ih fun hm => h (List.mem_cons_of_mem _ hm)
        rw [key hy, h y (by simp [e, hy])]
theorem Fr.ov {h₀ h : Heap} {L : Addr} {m m₀ : Str → Option Value} {l : List Str} (F : Fr h₀ L h m) (hm : ∀ y, y ∉ l → m y = m₀ y) : Fr h₀ L h (ov m m₀ l) := (ov_eq hm).symm ▸ F

def WhileOut (h₀ : Heap) (L : Addr) (s : Shared) (P : (Str → Option Value) → List (Addr × Obj) → Prop) (s₃ : Shared) : Prop :=
  ∃ h' tk m₂ nw, s₃ = { s with heap := h', toks := tk } ∧ Fr h₀ L h' m₂ ∧ News h₀ L h' nw ∧ P m₂ nw
theorem WhileOut.intro {h₀ h' : Heap} {L : Addr} {s : Shared} {P : (Str → Option Value) → List (Addr × Obj) → Prop} {tk : Nat} {m₂ : Str → Option Value} {nw : List (Addr × Obj)} (F : Fr h₀ L h' m₂) (N : News h₀ L h' nw) (hP : P m₂ nw) : WhileOut h₀ L s P { s with heap := h', toks := tk } :=
  ⟨h', tk, m₂, nw, rfl, F, N, hP⟩
theorem While_J {prog : Program} {w : World} {A : Around} {E : Value → Shared → Prop} {Q : Flow → Shared → Prop} {s : Shared} {env : Env} {h₀ : Heap} {L : Addr} {test : Expr} {body : List Stmt} {pos : Pos} {m : Str → Option Value} {news : List (Addr × Obj)}
    (J : Nat → (Str → Option Value) → List (Addr × Obj) → Prop) (P : (Str → Option Value) → List (Addr × Obj) → Prop) (n₀ : Nat) (F : Fr h₀ L s.heap m) (N : News h₀ L s.heap news) (hJ : J n₀ m news)
    (turn : ∀ n m₁ nw h tk, Fr h₀ L h m₁ → News h₀ L h nw → J n m₁ nw →
      wpAny (model prog w) A (isTrue test env (eval test env)) (fun b s₂ => if b = true then wpAny (model prog w) A (execs body env) (WhileStep h₀ L s J n) (fun _ _ => False) s₂ else WhileOut h₀ L s P s₂) (fun _ _ => False) { s with heap := h, toks := tk })
    (done : ∀ m₂ nw h tk, P m₂ nw → Fr h₀ L h m₂ → News h₀ L h nw → Q .next { s with heap := h, toks := tk }) :
    wpAny (model prog w) A (exec (.While test body [] pos) env) Q E s := by
  refine noraise (wpAny_mono (While_inv (Q := fun f s₂ => f = .next ∧ WhileOut h₀ L s P s₂) J F N hJ ?_ (fun _ _ h => h.elim)) (fun f s₂ h => ?_) fun _ _ h => h)
  · intro n m₁ nw h tk F N hJ
    refine wpAny_mono (turn n m₁ nw h tk F N hJ) (fun b s₂ hb => ?_) fun _ _ h => h
    split
    · rename_i e; rw [if_pos e] at hb; exact hb
    · rename_i e; rw [if_neg e] at hb; exact ⟨rfl, hb⟩
  · obtain ⟨rfl, h', tk, m₂, nw, rfl, F, N, hP⟩ := h
    exact done m₂ nw h' tk hP F N
theorem bitOr_nat (a b : Nat) : Builtin.bitOr (a : Int) (b : Int) = ((a ||| b : Nat) : Int) := by
  unfold Builtin.bitOr Builtin.bitAnd Builtin.bitNot
  have e1 : decide (0 ≤ -(a : Int) - 1) = false := by simp; omega
  have e2 : decide (0 ≤ -(b : Int) - 1) = false := by simp; omega
  rw [e1, e2]
  have e3 : (-(-(a : Int) - 1) - 1).toNat = a := by omega
  have e4 : (-(-(b : Int) - 1) - 1).toNat = b := by omega
  simp only [e3, e4]
  omega
theorem bitOr_add {a b k : Nat} (h : b < 2 ^ k) : Builtin.bitOr ((a * 2 ^ k : Nat) : Int) (b : Int) = ((a * 2 ^ k + b : Nat) : Int) := by
  rw [bitOr_nat, Nat.mul_comm, Nat.two_pow_add_eq_or_of_lt h]
/-- a list of ints that are naturals -/
abbrev nats (W : List Nat) : List Int := W.map (fun n : Nat => (n : Int))
theorem nats_app (a b : List Nat) : nats (a ++ b) = nats a ++ nats b := List.map_append ..
/-- what a compressed list says -/
inductive Codes : List Nat → List Nat → Prop
  | nil : Codes [] []
  | cons (r : Nat) (lits cw ws : List Nat) : Codes cw ws → Codes ((lits.length * 2 ^ 33 + r * 2) :: (lits ++ cw)) (List.replicate r 0 ++ lits ++ ws)
theorem Codes.app {a x b y : List Nat} (h : Codes a x) (h' : Codes b y) : Codes (a ++ b) (x ++ y) := by
  induction h with
  | nil => exact h'
  | cons r lits cw ws _ ih => simpa [List.append_assoc] using Codes.cons r lits _ _ ih
section
variable {prog : Program} {w : World} {A : Around} {E : Value → Shared → Prop} {s : Shared}
theorem natShl33 {a : Nat} {t u : Tok} {Q : Value → Shared → Prop} (ha : a < 2 ^ 63) (h : Q (.int ((a * 2 ^ 33 : Nat) : Int) s.toks) { s with toks := s.toks + 1 }) : wpAny (model prog w) A (binaryOp .LShift (.int (a : Nat) t) (.int 33 u)) Q E s :=
  lshift_int_small (by decide) (by decide) (by omega) (by have e : ((a * 2 ^ 33 : Nat) : Int) = (a : Int) * 2 ^ (33 : Int).toNat := by simp
                                                          exact e ▸ h)
theorem natShl1 {a : Nat} {t u : Tok} {Q : Value → Shared → Prop} (ha : a < 2 ^ 63) (h : Q (.int ((a * 2 : Nat) : Int) s.toks) { s with toks := s.toks + 1 }) : wpAny (model prog w) A (binaryOp .LShift (.int (a : Nat) t) (.int 1 u)) Q E s :=
  lshift_int_small (by decide) (by decide) (by omega) (by have e : ((a * 2 : Nat) : Int) = (a : Int) * 2 ^ (1 : Int).toNat := by simp
                                                          exact e ▸ h)
theorem zeroShl1 {t u : Tok} {Q : Value → Shared → Prop} (h : Q (.int 0 s.toks) { s with toks := s.toks + 1 }) : wpAny (model prog w) A (binaryOp .LShift (.int 0 t) (.int 1 u)) Q E s :=
  natShl1 (a := 0) (by decide) h
theorem natOr {a b : Nat} {t u : Tok} {Q : Value → Shared → Prop} (h : Q (.int ((a ||| b : Nat) : Int) s.toks) { s with toks := s.toks + 1 }) : wpAny (model prog w) A (binaryOp .BitOr (.int (a : Nat) t) (.int (b : Nat) u)) Q E s :=
  or_int (by rw [bitOr_nat]; exact h)
theorem natOr0 {a : Nat} {t u : Tok} {Q : Value → Shared → Prop} (h : Q (.int (a : Nat) s.toks) { s with toks := s.toks + 1 }) : wpAny (model prog w) A (binaryOp .BitOr (.int (a : Nat) t) (.int 0 u)) Q E s :=
  natOr (b := 0) (by rw [Nat.or_zero]; exact h)
end
theorem or_sum {q r : Nat} (hr : r < 2 ^ 32) : q * 2 ^ 33 ||| r * 2 = q * 2 ^ 33 + r * 2 := by
  rw [Nat.mul_comm q, Nat.two_pow_add_eq_or_of_lt (by omega)]
theorem getD_take_succ {W : List Nat} {i q : Nat} (h : i + q < W.length) : (W.drop i).take (q + 1) = (W.drop i).take q ++ [W.getD (i + q) 0] := by
  rw [List.take_add_one, List.getElem?_drop, List.getElem?_eq_getElem h, List.getD_eq_getElem?_getD, List.getElem?_eq_getElem h]; rfl
theorem updF_upd {d : Addr} {o o' : Obj} : ∀ {l : List (Addr × Obj)} {g : Obj → List (Addr × Obj)}, UpdF d o l g → Upd d o o' l (g o')
  | _, _, .head h => .head h
  | _, _, .tail h r => .tail h (updF_upd r)
theorem extL_N {prog : Program} {w : World} {A : Around} {E : Value → Shared → Prop} {s : Shared} {h₀ : Heap} {L D b : Addr} {m : Str → Option Value} {news : List (Addr × Obj)} {g : Obj → List (Addr × Obj)} {its its2 : Array Value} {n n2 : Nat} {Q : Value → Shared → Prop}
    (F : Fr h₀ L s.heap m) (N : News h₀ L s.heap news) (hb : (b, listOf its2 n2) ∈ news) (U : UpdF D (listOf its n) news g) (hz : its.size + its2.size ≤ 16384)
    (h : ∀ h' n', Fr h₀ L h' m → News h₀ L h' (g (listOf (its ++ its2) n')) → Q .none { s with heap := h' }) : wpAny (model prog w) A (call (.builtin "list.extend") [.ref D, .ref b]) Q E s := by
  have hd : ¬(!its.isEmpty && Builtin.List.listTooLong (its.size + its2.size)) = true := by
    have : Builtin.List.listTooLong (its.size + its2.size) = false := by
      unfold Builtin.List.listTooLong
      exact decide_eq_false (Nat.not_lt.mpr (Nat.le_trans hz (by decide)))
    rw [this]; simp
  have h1 : its.toList.length ≤ sizeLine := by rw [Array.length_toList]; exact Nat.le_trans (show its.size ≤ 16384 by omega) (by decide)
  have h2 : its.size + its2.size ≤ sizeLine + 1 := Nat.le_trans hz (by decide)
  by_cases e : its2.toList = []
  · refine kxn_extend F N hb e (updF_upd U) hd h1 h2 fun h' F' N' => h h' n F' ?_
    have e2 : its ++ its2 = its := by
      have : its2 = #[] := Array.toList_inj.mp (by rw [e])
      rw [this, Array.append_empty]
    rw [e2]; exact N'
  · refine kl_extend F N hb rfl (fun h0 => e (List.length_eq_zero_iff.mp h0)) (updF_upd U) hd h1 h2 fun h' F' N' => h h' (n + 1) F' ?_
    have e2 : (its.toList ++ its2.toList).toArray = its ++ its2 := by rw [← Array.toList_append, Array.toArray_toList]
    exact e2 ▸ N'
theorem take_zeros {W : List Nat} {i r : Nat} (h : i + r ≤ W.length) (hz : ∀ j, i ≤ j → j < i + r → W.getD j 0 = 0) : (W.drop i).take r = List.replicate r 0 := by
  rw [List.eq_replicate_iff]
  refine ⟨by rw [List.length_take, List.length_drop]; omega, fun b hb => ?_⟩
  obtain ⟨j, hj, rfl⟩ := List.mem_iff_getElem.mp hb
  rw [List.length_take, List.length_drop] at hj
  have := hz (i + j) (by omega) (by omega)
  rw [List.getD_eq_getElem?_getD, List.getElem?_eq_getElem (by omega), Option.getD_some] at this
  rw [List.getElem_take, List.getElem_drop]
  exact this
theorem take_split {W : List Nat} {i r q : Nat} (h : i + r + q ≤ W.length) (hz : ∀ j, i ≤ j → j < i + r → W.getD j 0 = 0) : W.take (i + r + q) = W.take i ++ (List.replicate r 0 ++ (W.drop (i + r)).take q ++ []) := by
  rw [List.append_nil, List.take_add, List.take_add, take_zeros (by omega) hz, List.append_assoc]
theorem IntsAre.snocE {a : List Value} {b : List Int} {x y : Int} {t : Tok} (h : IntsAre a b) (e : x = y) : IntsAre (a ++ [.int x t]) (b ++ [y]) := e ▸ h.append (IntsAre.cons _ _ .nil)
theorem ewO_next {W cw : List Nat} {i r q X : Nat} {cits lits : Array Value} {t : Tok} (hle : i + r + q ≤ W.length) (h1 : 1 ≤ r + q) (hz : ∀ j, i ≤ j → j < i + r → W.getD j 0 = 0) (hcI : IntsAre cits.toList (nats cw)) (hcC : Codes cw (W.take i)) (hcs : cits.size = cw.length) (hcl : cw.length ≤ 2 * i)
    (hcb : ∀ c ∈ cw, c < 2 ^ 64) (hlen : W.length ≤ 7) (hW : ∀ x ∈ W, x < 18446744073709551615) (hls : lits.size = q) (hlI : IntsAre lits.toList (nats ((W.drop (i + r)).take q))) (hX : X = q * 2 ^ 33 + r * 2) :
    IntsAre (cits.push (.int (X : Nat) t) ++ lits).toList (nats (cw ++ X :: (W.drop (i + r)).take q)) ∧ Codes (cw ++ X :: (W.drop (i + r)).take q) (W.take (i + r + q)) ∧ (cits.push (.int (X : Nat) t) ++ lits).size = (cw ++ X :: (W.drop (i + r)).take q).length ∧
      (cw ++ X :: (W.drop (i + r)).take q).length ≤ 2 * (i + r + q) ∧ ∀ c ∈ cw ++ X :: (W.drop (i + r)).take q, c < 2 ^ 64 := by
  have hq : ((W.drop (i + r)).take q).length = q := by rw [List.length_take, List.length_drop]; omega
  refine ⟨?_, ?_, ?_, ?_, ?_⟩
  · rw [Array.toList_append, Array.toList_push, List.append_assoc]
    rw [nats, List.map_append, List.map_cons]
    exact hcI.append (IntsAre.cons _ _ hlI)
  · rw [take_split hle hz, hX]
    have := Codes.cons r ((W.drop (i + r)).take q) [] [] .nil
    rw [hq, List.append_nil] at this
    exact Codes.app hcC this
  · rw [Array.size_append, Array.size_push, List.length_append, List.length_cons, hq, hls, hcs]; omega
  · rw [List.length_append, List.length_cons, hq]; omega
  · intro c hc
    rcases List.mem_append.mp hc with h | h
    · exact hcb c h
    · rcases List.mem_cons.mp h with rfl | h
      · rw [hX]; omega
      · have := hW c (List.mem_of_mem_drop (List.mem_of_mem_take h)); omega
end Mine
end
section
open PySem PyProof.Rows
set_option maxRecDepth 100000
namespace Mine
open Builtin Builtin.Struct

def beBytes (k n : Nat) : Array UInt8 := (Memoryview.toLittleEndian k n).reverse

theorem kind_pack : builtinKind "_struct.pack" = none := by decide +kernel
theorem plain_pack : plainId "_struct.pack" = true := by decide +kernel
theorem entry_pack : entryFor table "_struct.pack" = some Builtin.«_struct.pack» := entryFor_of_tree (by kernel_rfl)
theorem kind_unpack : builtinKind "_struct.unpack" = none := by decide +kernel
theorem plain_unpack : plainId "_struct.unpack" = true := by decide +kernel
theorem entry_unpack : entryFor table "_struct.unpack" = some Builtin.«_struct.unpack» := entryFor_of_tree (by kernel_rfl)
theorem args_pack2 (a b : Value) : argsOk "_struct.pack" ⟨[a, b], []⟩ := by unfold argsOk; kernel_rfl
theorem args_pack4 (a b c d : Value) : argsOk "_struct.pack" ⟨[a, b, c, d], []⟩ := by unfold argsOk; kernel_rfl
theorem args_unpack2 (a b : Value) : argsOk "_struct.unpack" ⟨[a, b], []⟩ := by unfold argsOk; kernel_rfl
def fmtI : Format := { bigEndian := true, native := false, codes := [⟨'I', 1, 0, 4⟩], size := 4, items := 1 }
def fmtQ : Format := { bigEndian := true, native := false, codes := [⟨'Q', 1, 0, 8⟩], size := 8, items := 1 }
def fmtIII : Format := { bigEndian := true, native := false, codes := [⟨'I', 1, 0, 4⟩, ⟨'I', 1, 4, 4⟩, ⟨'I', 1, 8, 4⟩], size := 12, items := 3 }
theorem parse_I : Struct.parse #[62, 73] = pure fmtI := by kernel_rfl
theorem parse_Q : Struct.parse #[62, 81] = pure fmtQ := by kernel_rfl
theorem parse_III : Struct.parse #[62, 73, 73, 73] = pure fmtIII := by kernel_rfl
theorem moduleFormat_I (t : Tok) : Struct.moduleFormat (.str (Str.ofString ">I") t) = pure fmtI := by kernel_rfl
theorem moduleFormat_Q (t : Tok) : Struct.moduleFormat (.str (Str.ofString ">Q") t) = pure fmtQ := by kernel_rfl
theorem moduleFormat_III (t : Tok) : Struct.moduleFormat (.str (Str.ofString ">III") t) = pure fmtIII := by kernel_rfl
end Mine
end
section
open PySem PyProof.Rows
set_option maxRecDepth 100000
namespace Mine
open Builtin Builtin.Struct
section
variable {prog : Program} {w : World} {A : Around} {E : Value → Shared → Prop} {s : Shared}

theorem intBytes_of {k n : Nat} (h : n < 2 ^ (8 * k)) : intBytes true k (n : Int) = beBytes k n := by
  unfold intBytes beBytes
  simp only [if_true]
  congr 2
  have : ((n : Int) % 2 ^ (8 * k)) = n := Int.emod_eq_of_lt (by omega) (by exact_mod_cast h)
  rw [this]; rfl

theorem beBytes4 (n : Nat) : beBytes 4 n = #[(n / 256 ^ 3 % 256).toUInt8, (n / 256 ^ 2 % 256).toUInt8, (n / 256 ^ 1 % 256).toUInt8, (n / 256 ^ 0 % 256).toUInt8] := by
  unfold beBytes Memoryview.toLittleEndian
  simp [List.range, List.range.loop]
theorem beBytes8 (n : Nat) : beBytes 8 n = #[(n / 256 ^ 7 % 256).toUInt8, (n / 256 ^ 6 % 256).toUInt8, (n / 256 ^ 5 % 256).toUInt8, (n / 256 ^ 4 % 256).toUInt8, (n / 256 ^ 3 % 256).toUInt8, (n / 256 ^ 2 % 256).toUInt8, (n / 256 ^ 1 % 256).toUInt8, (n / 256 ^ 0 % 256).toUInt8] := by
  unfold beBytes Memoryview.toLittleEndian
  simp [List.range, List.range.loop]

theorem packI_rule {n : Nat} {t u : Tok} {Q : Value → Shared → Prop} (hn : n < 2 ^ 32) (hQ : Q (.bytes (beBytes 4 n) s.toks) { s with toks := s.toks + 1 }) :
    wpAny (model prog w) A (call (.builtin "_struct.pack") [.str (Str.ofString ">I") t, .int n u]) Q E s := by
  refine Calls.call_function_entry kind_pack plain_pack entry_pack (args_pack2 _ _) ?_
  unfold Builtin.«_struct.pack»
  refine wpAny_bind (m := noKeywords "_struct.pack" _) (wpAny_pure ?_)
  dsimp only
  refine wpAny_bind (wpAny_of_eq (moduleFormat_I t) ?_)
  unfold Struct.packed
  rw [if_neg (show ¬ (([Value.int (n : Int) u].length != fmtI.items) = true) from by show ¬ ((1 != 1) = true); decide)]
  rw [if_neg (by decide +kernel)]
  refine wpAny_bind ?_
  unfold packEach
  dsimp only [fmtI]
  simp only [List.forIn_cons, List.forIn_nil, Std.Legacy.Range.forIn_eq_forIn_range', Std.Legacy.Range.size, List.range', bind_assoc, pure_bind]
  simp only [show ('I' == 'x') = false from by decide, show ('I' == 's' || 'I' == 'p') = false from by decide, Bool.false_eq_true, if_false, bind_assoc, pure_bind]
  refine wpAny_bind ?_
  wp_delta
  refine wpAny_bind (wpAny_attempt ?_)
  wp_delta
  refine wpAny_bind (m := asInt? _) (wpAny_pure (wpAny_pure ?_))
  dsimp only
  refine wpAny_bind (wpAny_pure ?_)
  have hlow : ('I'.isLower) = false := by decide
  rw [hlow]
  rw [if_neg (by simp only [Bool.false_eq_true, if_false, Bool.or_eq_true, decide_eq_true_eq]; omega)]
  refine wpAny_pure ?_
  refine wpAny_pure ?_
  rw [intBytes_of (by simpa using hn)]
  refine wpAny_bind ?_
  refine Eq.mpr (congrArg (fun b => wpAny (model prog w) A.in1 (mkBytes b) _ E s) (?h : _ = beBytes 4 n)) ?_
  case h =>
    rw [beBytes4]
    generalize (n / 256 ^ 3 % 256).toUInt8 = x3
    generalize (n / 256 ^ 2 % 256).toUInt8 = x2
    generalize (n / 256 ^ 1 % 256).toUInt8 = x1
    generalize (n / 256 ^ 0 % 256).toUInt8 = x0
    kernel_rfl
  unfold mkBytes
  rw [if_neg (by rw [beBytes4, sizeLine_eq]; simp)]
  refine wpAny_bind (wpAny_fresh (wpAny_pure (wpAny_pure ⟨_, rfl, hQ⟩)))
theorem packQ_rule {n : Nat} {t u : Tok} {Q : Value → Shared → Prop} (hn : n < 2 ^ 64) (hQ : Q (.bytes (beBytes 8 n) s.toks) { s with toks := s.toks + 1 }) :
    wpAny (model prog w) A (call (.builtin "_struct.pack") [.str (Str.ofString ">Q") t, .int n u]) Q E s := by
  refine Calls.call_function_entry kind_pack plain_pack entry_pack (args_pack2 _ _) ?_
  unfold Builtin.«_struct.pack»
  refine wpAny_bind (m := noKeywords "_struct.pack" _) (wpAny_pure ?_)
  dsimp only
  refine wpAny_bind (wpAny_of_eq (moduleFormat_Q t) ?_)
  unfold Struct.packed
  rw [if_neg (show ¬ (([Value.int (n : Int) u].length != fmtQ.items) = true) from by show ¬ ((1 != 1) = true); decide)]
  rw [if_neg (by decide +kernel)]
  refine wpAny_bind ?_
  unfold packEach
  dsimp only [fmtQ]
  simp only [List.forIn_cons, List.forIn_nil, Std.Legacy.Range.forIn_eq_forIn_range', Std.Legacy.Range.size, List.range', bind_assoc, pure_bind]
  simp only [show ('Q' == 'x') = false from by decide, show ('Q' == 's' || 'Q' == 'p') = false from by decide, Bool.false_eq_true, if_false, bind_assoc, pure_bind]
  refine wpAny_bind ?_
  wp_delta
  refine wpAny_bind (wpAny_attempt ?_)
  wp_delta
  refine wpAny_bind (m := asInt? _) (wpAny_pure (wpAny_pure ?_))
  dsimp only
  refine wpAny_bind (wpAny_pure ?_)
  have hlow : ('Q'.isLower) = false := by decide
  rw [hlow]
  rw [if_neg (by simp only [Bool.false_eq_true, if_false, Bool.or_eq_true, decide_eq_true_eq]; omega)]
  refine wpAny_pure ?_
  refine wpAny_pure ?_
  rw [intBytes_of (by simpa using hn)]
  refine wpAny_bind ?_
  refine Eq.mpr (congrArg (fun b => wpAny (model prog w) A.in1 (mkBytes b) _ E s) (?h : _ = beBytes 8 n)) ?_
  case h =>
    rw [beBytes8]
    generalize (n / 256 ^ 7 % 256).toUInt8 = x7
    generalize (n / 256 ^ 6 % 256).toUInt8 = x6
    generalize (n / 256 ^ 5 % 256).toUInt8 = x5
    generalize (n / 256 ^ 4 % 256).toUInt8 = x4
    generalize (n / 256 ^ 3 % 256).toUInt8 = x3
    generalize (n / 256 ^ 2 % 256).toUInt8 = x2
    generalize (n / 256 ^ 1 % 256).toUInt8 = x1
    generalize (n / 256 ^ 0 % 256).toUInt8 = x0
    kernel_rfl
  unfold mkBytes
  rw [if_neg (by rw [beBytes8, sizeLine_eq]; simp)]
  refine wpAny_bind (wpAny_fresh (wpAny_pure (wpAny_pure ⟨_, rfl, hQ⟩)))

theorem packIII_rule {t u v x : Tok} {Q : Value → Shared → Prop} (hQ : Q (.bytes (Array.replicate 12 0) s.toks) { s with toks := s.toks + 1 }) :
    wpAny (model prog w) A (call (.builtin "_struct.pack") [.str (Str.ofString ">III") t, .int 0 u, .int 0 v, .int 0 x]) Q E s := by
  refine Calls.call_function_entry kind_pack plain_pack entry_pack (args_pack4 _ _ _ _) ?_
  unfold Builtin.«_struct.pack»
  refine wpAny_bind (m := noKeywords "_struct.pack" _) (wpAny_pure ?_)
  dsimp only
  refine wpAny_bind (wpAny_of_eq (moduleFormat_III t) ?_)
  refine wpAny_mono (Q := fun fin s' => ∃ v, fin = .done (.ret v) ∧ Q v s') ?_ (fun _ _ h => h) fun _ _ h => h
  have e : Struct.packed "_struct.pack" "pack" fmtIII [.int 0 u, .int 0 v, .int 0 x] = (do ret (← mkBytes (Array.replicate 12 0))) := by kernel_rfl
  rw [e]
  refine wpAny_bind ?_
  unfold mkBytes
  rw [if_neg (by rw [sizeLine_eq]; simp)]
  exact wpAny_bind (wpAny_fresh (wpAny_pure (wpAny_pure ⟨_, rfl, hQ⟩)))
end
end Mine
end
section
open PySem PyProof.Rows
set_option maxRecDepth 100000
namespace Mine
open Builtin Builtin.Struct

theorem noBuffer_lookup : typeLookup (.type "bytes") "__buffer__" = pure (some (.builtin "bytes.__buffer__")) := by rw [typeLookup_type, builtinLookup_eq_fast]; kernel_rfl
theorem noRelease_lookup : typeLookup (.type "bytes") "__release_buffer__" = pure none := by rw [typeLookup_type, builtinLookup_eq_fast]; kernel_rfl
theorem sub_bytes_self : isSubtype (.type "bytes") (.type "bytes") = pure true := by rw [isSubtype_type]; kernel_rfl
section
variable {prog : Program} {w : World} {A : Around} {E : Value → Shared → Prop} {s : Shared}
theorem bytesLike_rule {b : Array UInt8} {t : Tok} {Q : Array UInt8 → Shared → Prop} (hQ : Q b s) : wpAny (model prog w) A (Bytes.bytesLike "_struct.unpack" (.bytes b t)) Q E s := by
  have hT : s.TypeIs (.bytes b t) "bytes" := rfl
  unfold Bytes.bytesLike Bytes.buffer?
  refine wpAny_bind (wpAny_bind (wpAny_specialOf hT noBuffer_lookup ?_))
  dsimp only
  unfold Bytes.slotIsOwn
  refine wpAny_bind (wpAny_bind (wpAny_specialOf hT noBuffer_lookup ?_))
  dsimp only
  have e1 : ("bytes.__buffer__".endsWith ("." ++ "__buffer__")) = true := by decide +kernel
  have e2 : ("bytes.__buffer__".dropRight ("__buffer__".length + 1)) = "bytes" := by decide +kernel
  rw [e1, e2]
  simp only [Bool.not_true, Bool.false_eq_true, if_false]
  refine wpAny_isInstance hT sub_bytes_self ?_
  simp only [Bool.not_true, Bool.false_eq_true, if_false]
  refine wpAny_bind (wpAny_specialOf hT noBuffer_lookup ?_)
  (try dsimp only)
  unfold Bytes.ownRelease Bytes.slotIsOwn
  refine wpAny_bind (wpAny_bind (wpAny_bind (wpAny_specialOf hT noRelease_lookup ?_)))
  refine wpAny_pure (wpAny_pure ?_)
  simp only [Bool.not_true, Bool.false_eq_true, if_false]
  refine wpAny_bind (wpAny_pure (wpAny_pure ?_))
  exact wpAny_pure hQ

theorem littleEndian_to (k : Nat) : ∀ n, Memoryview.littleEndian (Memoryview.toLittleEndian k n) = n % 256 ^ k := by
  have key : ∀ (k n : Nat), ((List.range k).map fun j => (n / 256 ^ j % 256).toUInt8).foldr (fun c m => m * 256 + c.toNat) 0 = n % 256 ^ k := by
    intro k
    induction k with
    | zero => intro n; simp [Nat.mod_one]
    | succ k ih =>
      intro n
      rw [List.range_succ_eq_map, List.map_cons, List.foldr_cons, List.map_map]
      have h := ih (n / 256)
      have e : (List.range k).map ((fun j => (n / 256 ^ j % 256).toUInt8) ∘ Nat.succ) = (List.range k).map fun j => (n / 256 / 256 ^ j % 256).toUInt8 := by
        refine List.map_congr_left fun j _ => ?_
        show (n / 256 ^ (j + 1) % 256).toUInt8 = _
        rw [Nat.pow_succ, Nat.mul_comm, Nat.div_div_eq_div_mul]
      rw [e, h]
      have h0 : ((n / 256 ^ 0 % 256).toUInt8).toNat = n % 256 := by
        simp
      rw [h0, Nat.pow_succ, Nat.mul_comm (256 ^ k) 256, Nat.mod_mul]
      omega
  intro n
  unfold Memoryview.littleEndian Memoryview.toLittleEndian
  rw [List.foldr_toArray]
  exact key k n

theorem natOf_be {k n : Nat} (h : n < 256 ^ k) : natOf true (beBytes k n) = n := by
  unfold natOf beBytes
  simp only [if_true, Array.reverse_reverse]
  rw [littleEndian_to, Nat.mod_eq_of_lt h]

theorem unpackI_rule {b : Array UInt8} {t u : Tok} {Q : Value → Shared → Prop} (hb : b.size = 4)
    (hQ : Q (.ref s.heap.objs.size) { s with heap := s.heap.push { cls := .type "tuple", data := .seq #[.int (natOf true b) s.toks] }, toks := s.toks + 1 }) :
    wpAny (model prog w) A (call (.builtin "_struct.unpack") [.str (Str.ofString ">I") t, .bytes b u]) Q E s := by
  refine Calls.call_function_entry kind_unpack plain_unpack entry_unpack (args_unpack2 _ _) ?_
  unfold Builtin.«_struct.unpack»
  refine wpAny_bind (m := noKeywords "_struct.unpack" _) (wpAny_pure ?_)
  refine wpAny_bind (m := checkCount "unpack" 2 2 _) (wpAny_pure ?_)
  refine wpAny_bind (wpAny_of_eq (show Struct.moduleFormat _ = _ from moduleFormat_I t) ?_)
  unfold Struct.unpackExact
  refine wpAny_bind (bytesLike_rule ?_)
  refine wpAny_bind (wpAny_pure ?_)
  rw [if_neg (by rw [hb]; decide +kernel)]
  refine wpAny_bind ?_
  unfold Struct.unpacked
  dsimp only [fmtI]
  simp only [List.forIn_cons, List.forIn_nil, Std.Legacy.Range.forIn_eq_forIn_range', Std.Legacy.Range.size, List.range', bind_assoc, pure_bind]
  have hx : b.extract (0 + 0 + 0 * 4) (0 + 0 + (0 + 1) * 4) = b := by
    have : 0 + 0 + (0 + 1) * 4 = b.size := by rw [hb]
    rw [this]; simp
  refine wpAny_bind ?_
  show wpAny _ _ (if Bytes.tooLong 1 = true then _ else _) _ _ _
  rw [if_neg (by decide +kernel)]
  refine wpAny_bind ?_
  show wpAny _ _ (mkInt (if _ then _ else _) >>= _) _ _ _
  have hlow : ('I'.isLower) = false := by decide
  rw [hlow, if_neg (by simp), hx]
  refine wpAny_bind (wpAny_mkInt (wpAny_pure ?_))
  refine wpAny_bind (wpAny_pure (wpAny_pure (wpAny_bind (wpAny_pure ?_))))
  refine wpAny_newObj_type ?_ (by show (1 : Nat) ≤ sizeLine; rw [sizeLine_eq]; omega)
  exact wpAny_pure ⟨_, rfl, hQ⟩

theorem unpackQ_rule {b : Array UInt8} {t u : Tok} {Q : Value → Shared → Prop} (hb : b.size = 8)
    (hQ : Q (.ref s.heap.objs.size) { s with heap := s.heap.push { cls := .type "tuple", data := .seq #[.int (natOf true b) s.toks] }, toks := s.toks + 1 }) :
    wpAny (model prog w) A (call (.builtin "_struct.unpack") [.str (Str.ofString ">Q") t, .bytes b u]) Q E s := by
  refine Calls.call_function_entry kind_unpack plain_unpack entry_unpack (args_unpack2 _ _) ?_
  unfold Builtin.«_struct.unpack»
  refine wpAny_bind (m := noKeywords "_struct.unpack" _) (wpAny_pure ?_)
  refine wpAny_bind (m := checkCount "unpack" 2 2 _) (wpAny_pure ?_)
  refine wpAny_bind (wpAny_of_eq (show Struct.moduleFormat _ = _ from moduleFormat_Q t) ?_)
  unfold Struct.unpackExact
  refine wpAny_bind (bytesLike_rule ?_)
  refine wpAny_bind (wpAny_pure ?_)
  rw [if_neg (by rw [hb]; decide +kernel)]
  refine wpAny_bind ?_
  unfold Struct.unpacked
  dsimp only [fmtQ]
  simp only [List.forIn_cons, List.forIn_nil, Std.Legacy.Range.forIn_eq_forIn_range', Std.Legacy.Range.size, List.range', bind_assoc, pure_bind]
  have hx : b.extract (0 + 0 + 0 * 8) (0 + 0 + (0 + 1) * 8) = b := by
    have : 0 + 0 + (0 + 1) * 8 = b.size := by rw [hb]
    rw [this]; simp
  refine wpAny_bind ?_
  show wpAny _ _ (if Bytes.tooLong 1 = true then _ else _) _ _ _
  rw [if_neg (by decide +kernel)]
  refine wpAny_bind ?_
  show wpAny _ _ (mkInt (if _ then _ else _) >>= _) _ _ _
  have hlow : ('Q'.isLower) = false := by decide
  rw [hlow, if_neg (by simp), hx]
  refine wpAny_bind (wpAny_mkInt (wpAny_pure ?_))
  refine wpAny_bind (wpAny_pure (wpAny_pure (wpAny_bind (wpAny_pure ?_))))
  refine wpAny_newObj_type ?_ (by show (1 : Nat) ≤ sizeLine; rw [sizeLine_eq]; omega)
  exact wpAny_pure ⟨_, rfl, hQ⟩

end
end Mine
end
section
open PySem PySem.W PyProof.Rows
set_option maxRecDepth 100000
namespace Mine
theorem noI_bytes_add : typeLookup (.type "bytes") (dunderI "add") = pure none := by rw [typeLookup_type, builtinLookup_eq_fast]; kernel_rfl
theorem bInts_inj {a b : Array UInt8} (h : KBw.bInts a = KBw.bInts b) : a = b := by
  apply Array.toList_inj.mp
  unfold KBw.bInts at h
  exact List.map_inj_right (fun x y e => UInt8.toNat_inj.mp (Int.ofNat_inj.mp e)) |>.mp h
theorem beBytes_size (k n : Nat) : (beBytes k n).size = k := by
  unfold beBytes Builtin.Memoryview.toLittleEndian
  simp
section
variable {prog : Program} {w : World} {A : Around} {E : Value → Shared → Prop} {s : Shared} {h₀ : Heap} {L : Addr} {m : Str → Option Value} {news : List (Addr × Obj)} {b c : Array UInt8} {t u : Tok} {Q : Value → Shared → Prop} {value slice : PySem.Expr}
theorem iadd_bytes (hsz : b.size + c.size ≤ 16777216) (h : ∀ t' k, Q (.bytes (b ++ c) t') { s with toks := k }) : wpAny (model prog w) A (inplaceOp .Add (.bytes b t) (.bytes c u)) Q E s := by
  refine PySem.iconcat_gives (typeIs_bytes s b t) (typeIs_bytes s c u) noI_bytes_add KBy.noFill_bytes_add KBy.seq_bytes_add FB.slot_bytes_add FB.entry_bytes_add (FB.args_bytes_add_2 _ _) (KBy.gives_bytes_add (KBy.tooLong_not hsz)) ?_
  by_cases hb : b.isEmpty = true
  · rw [if_pos hb]
    have e : b = #[] := Array.isEmpty_iff.1 hb
    have h' := h u s.toks
    rw [e, Array.empty_append] at h'
    exact h'
  · rw [if_neg hb]
    by_cases hc : c.isEmpty = true
    · rw [if_pos hc]
      have e : c = #[] := Array.isEmpty_iff.1 hc
      have h' := h t s.toks
      rw [e, Array.append_empty] at h'
      exact h'
    · rw [if_neg hc]
      exact ⟨by rw [Array.size_append, sizeLine_eq]; exact hsz, h s.toks (s.toks + 1)⟩
theorem sliceTo_N {n : Nat} (hF : Fr h₀ L s.heap m) (hN : News h₀ L s.heap news) (hz : b.size ≤ 16777216)
    (h : ∀ h' t' k, Fr h₀ L h' m → News h₀ L h' news → Q (.bytes (b.extract 0 n) t') { s with heap := h', toks := k })
    (hs : subscripted slice false (.bytes b t) (.ref s.heap.objs.size) = operate [.ref s.heap.objs.size, .bytes b t] (getItem (.bytes b t) (.ref s.heap.objs.size)) := by with_unfolding_all rfl)
    (ht : ∀ r, letTemporaryGo value (.bytes b t) r = pure () := by intro _; with_unfolding_all rfl) :
    wpAny (model prog w) A (subscriptTail value slice (.bytes b t) (.ref s.heap.objs.size)) Q E { s with heap := s.heap.push { cls := .type "slice", data := .fields #[.none, .int (n : Nat) u, .none] } } := by
  refine KBc.slice_K hF hN rfl .none (.int _ _) (by rw [KBw.ints_length]; exact hz) (fun h' t' k F' N' e => ?_) hs ht
  have e2 : KBy.picked b none (some (n : Int)) = b.extract 0 n := by
    apply bInts_inj
    rw [e]
    simp only [Option.elim_none, Option.elim_some, List.drop_zero, Nat.sub_zero]
    have e3 : clipAt (KBw.bInts b).length (n : Int) = min n b.size := by
      rw [KBw.ints_length]
      unfold clipAt
      rw [if_neg (by omega)]
      omega
    rw [e3]
    unfold KBw.bInts
    rw [← List.map_take]
    congr 1
    rw [Array.toList_extract, List.extract_eq_take_drop]
    simp
  rw [e2]
  exact h h' t' k F' N'
theorem sliceFrom_N {n : Nat} (hF : Fr h₀ L s.heap m) (hN : News h₀ L s.heap news) (hz : b.size ≤ 16777216)
    (h : ∀ h' t' k, Fr h₀ L h' m → News h₀ L h' news → Q (.bytes (b.extract n b.size) t') { s with heap := h', toks := k })
    (hs : subscripted slice false (.bytes b t) (.ref s.heap.objs.size) = operate [.ref s.heap.objs.size, .bytes b t] (getItem (.bytes b t) (.ref s.heap.objs.size)) := by with_unfolding_all rfl)
    (ht : ∀ r, letTemporaryGo value (.bytes b t) r = pure () := by intro _; with_unfolding_all rfl) :
    wpAny (model prog w) A (subscriptTail value slice (.bytes b t) (.ref s.heap.objs.size)) Q E { s with heap := s.heap.push { cls := .type "slice", data := .fields #[.int (n : Nat) u, .none, .none] } } := by
  refine KBc.slice_K hF hN rfl (.int _ _) .none (by rw [KBw.ints_length]; exact hz) (fun h' t' k F' N' e => ?_) hs ht
  have e2 : KBy.picked b (some (n : Int)) none = b.extract n b.size := by
    apply bInts_inj
    rw [e]
    simp only [Option.elim_none, Option.elim_some]
    have e3 : clipAt (KBw.bInts b).length (n : Int) = min n b.size := by
      rw [KBw.ints_length]
      unfold clipAt
      rw [if_neg (by omega)]
      omega
    rw [e3]
    unfold KBw.bInts
    rw [← List.map_drop, ← List.map_take]
    congr 1
    rw [Array.toList_extract, List.extract_eq_take_drop]
    simp only [List.length_map, Array.length_toList]
    by_cases hn : n ≤ b.size
    · rw [Nat.min_eq_left hn]
    · rw [Nat.min_eq_right (by omega)]
      rw [List.drop_of_length_le (by simp), List.drop_of_length_le (by simp; omega)]
      simp
  rw [e2]
  exact h h' t' k F' N'
end
end Mine
end
section
open PySem PySem.W PyProof.Rows
set_option maxRecDepth 100000
namespace Mine
theorem rep_flat : ∀ k : Nat, (List.replicate k [(0 : Int)]).flatten = nats (List.replicate k 0)
  | 0 => rfl
  | k + 1 => by rw [List.replicate_succ, List.flatten_cons, rep_flat k]; rfl
section
variable {prog : Program} {w : World} {A : Around} {E : Value → Shared → Prop} {s : Shared} {h₀ : Heap} {L D : Addr} {m : Str → Option Value} {news : List (Addr × Obj)} {its : Array Value} {n : Nat} {W : List Nat}
theorem natAdd1 {a : Nat} {t u : Tok} {Q : Value → Shared → Prop} (h : Q (.int ((a + 1 : Nat) : Int) s.toks) { s with toks := s.toks + 1 }) : wpAny (model prog w) A (binaryOp .Add (.int (a : Nat) t) (.int 1 u)) Q E s := PyProof.Rows.add_int h
theorem natAdd63 {a : Nat} {t u : Tok} {Q : Value → Shared → Prop} (h : Q (.int ((a + 63 : Nat) : Int) s.toks) { s with toks := s.toks + 1 }) : wpAny (model prog w) A (binaryOp .Add (.int (a : Nat) t) (.int 63 u)) Q E s := PyProof.Rows.add_int h
theorem natDiv64 {a : Nat} {t u : Tok} {Q : Value → Shared → Prop} (h : Q (.int ((a / 64 : Nat) : Int) s.toks) { s with toks := s.toks + 1 }) : wpAny (model prog w) A (binaryOp .FloorDiv (.int (a : Nat) t) (.int 64 u)) Q E s := natDiv (b := 64) (by decide) (by decide) h
theorem natMod64 {a : Nat} {t u : Tok} {Q : Value → Shared → Prop} (h : Q (.int ((a % 64 : Nat) : Int) s.toks) { s with toks := s.toks + 1 }) : wpAny (model prog w) A (binaryOp .Mod (.int (a : Nat) t) (.int 64 u)) Q E s := natMod (b := 64) (by decide) h
theorem natShlOne {j : Nat} {t u : Tok} {Q : Value → Shared → Prop} (hj : j < 1000) (h : Q (.int ((2 ^ j : Nat) : Int) s.toks) { s with toks := s.toks + 1 }) : wpAny (model prog w) A (binaryOp .LShift (.int 1 t) (.int (j : Nat) u)) Q E s :=
  lshift_int_small (by omega) (by omega) (by decide) (by have e : ((2 ^ j : Nat) : Int) = (1 : Int) * 2 ^ ((j : Nat) : Int).toNat := by simp
                                                         exact e ▸ h)
theorem natIor {a b : Nat} {t u : Tok} {Q : Value → Shared → Prop} (h : Q (.int ((a ||| b : Nat) : Int) s.toks) { s with toks := s.toks + 1 }) : wpAny (model prog w) A (inplaceOp .BitOr (.int (a : Nat) t) (.int (b : Nat) u)) Q E s :=
  ior_int (by rw [bitOr_nat]; exact h)
theorem nats_getD {i : Nat} (hi : i < W.length) : (nats W).getD i 0 = ((W.getD i 0 : Nat) : Int) := by
  simp only [nats, List.getD_eq_getElem?_getD, List.getElem?_map, List.getElem?_eq_getElem hi, Option.map_some, Option.getD_some]
theorem getW_N {i : Nat} {u : Tok} {Q : Value → Shared → Prop} (N : News h₀ L s.heap news) (hm : (D, listOf its n) ∈ news) (hI : IntsAre its.toList (nats W)) (hi : i < W.length) (hf : i < 2 ^ 62) (h : ∀ t, Q (.int ((W.getD i 0 : Nat) : Int) t) s) :
    wpAny (model prog w) A (getItem (.ref D) (.int (i : Nat) u)) Q E s := by
  have hm' : (D, listOf its.toList.toArray n) ∈ news := by rw [Array.toArray_toList]; exact hm
  refine ksa_get N hm' hI (by omega) (by rw [List.length_map]; omega) (by omega) fun t => ?_
  rw [Int.toNat_natCast, nats_getD hi]; exact h t
theorem setW_N {i x : Nat} {t u : Tok} {Q : Unit → Shared → Prop} {g : Obj → List (Addr × Obj)} (F : Fr h₀ L s.heap m) (N : News h₀ L s.heap news) (U : UpdF D (listOf its n) news g) (hI : IntsAre its.toList (nats W)) (hi : i < W.length) (hf : i < 2 ^ 62)
    (h : ∀ h' its', Fr h₀ L h' m → News h₀ L h' (g (listOf its' n)) → IntsAre its'.toList (nats (W.set i x)) → Q () { s with heap := h' }) :
    wpAny (model prog w) A (setItem (.ref D) (.int (i : Nat) t) (.int (x : Nat) u)) Q E s := by
  have U' : UpdF D (listOf its.toList.toArray n) news g := by rw [Array.toArray_toList]; exact U
  refine ksa_set F N (updF_upd U') hI (by omega) (by rw [List.length_map]; omega) (by omega) fun h' F' N' hI' _ _ => ?_
  refine h h' _ F' N' ?_
  rw [Int.toNat_natCast] at hI' ⊢
  rw [nats, List.map_set]
  exact hI'
theorem mulZ_N {k : Nat} {t u : Tok} {Q : Value → Shared → Prop} (F : Fr h₀ L s.heap m) (N : News h₀ L s.heap news) (hm : (D, listOf #[.int 0 t] n) ∈ news) (hk : k < 1000)
    (h : ∀ l its h', Fr h₀ L h' m → News h₀ L h' ((l, listOf its 0) :: news) → (∀ p ∈ news, p.1 < l) → IntsAre its.toList (nats (List.replicate k 0)) → Q (.ref l) { s with heap := h' }) :
    wpAny (model prog w) A (binaryOp .Mult (.ref D) (.int (k : Nat) u)) Q E s := by
  refine KM.mul (vs := [.int 0 t]) (ns := [0]) F N (News.isList N hm) (.cons 0 t .nil) (by omega) (by omega) (by simp; omega) fun l h' F' N' lt hI _ _ _ _ _ => ?_
  refine h l _ h' F' N' lt ?_
  have e : nats (List.replicate k 0) = (List.replicate ((k : Nat) : Int).toNat [(0 : Int)]).flatten := by
    rw [Int.toNat_natCast, rep_flat]
  rw [e]
  simpa using hI
end
/-- the words' bits -/
def BitsAre (W : List Nat) (l : List Int) : Prop := ∀ a b : Nat, (W.getD a 0).testBit b = true ↔ b < 64 ∧ ((64 * a + b : Nat) : Int) ∈ l
theorem bits_zero (k : Nat) : BitsAre (List.replicate k 0) [] := by
  intro a b
  have : (List.replicate k 0).getD a 0 = 0 := by
    rw [List.getD_eq_getElem?_getD, List.getElem?_replicate]; split <;> rfl
  rw [this]; simp
theorem bits_set {W : List Nat} {l : List Int} {z : Nat} (h : BitsAre W l) (hz : z / 64 < W.length) : BitsAre (W.set (z / 64) (W.getD (z / 64) 0 ||| 2 ^ (z % 64))) (l ++ [(z : Int)]) := by
  intro a b
  by_cases e : a = z / 64
  · subst e
    rw [List.getD_eq_getElem?_getD, List.getElem?_set_self hz, Option.getD_some, Nat.testBit_or, Nat.testBit_two_pow, Bool.or_eq_true, h]
    simp only [decide_eq_true_eq, List.mem_append, List.mem_singleton]
    constructor
    · rintro (⟨h1, h2⟩ | h1)
      · exact ⟨h1, .inl h2⟩
      · subst h1; exact ⟨Nat.mod_lt _ (by decide), .inr (by omega)⟩
    · rintro ⟨h1, h2 | h2⟩
      · exact .inl ⟨h1, h2⟩
      · right; omega
  · rw [List.getD_eq_getElem?_getD, List.getElem?_set_ne (fun h => e h.symm), ← List.getD_eq_getElem?_getD, h]
    simp only [List.mem_append, List.mem_singleton]
    constructor
    · rintro ⟨h1, h2⟩; exact ⟨h1, .inl h2⟩
    · rintro ⟨h1, h2 | h2⟩
      · exact ⟨h1, h2⟩
      · exfalso; apply e; omega
theorem bits_lt {W : List Nat} {l : List Int} (h : BitsAre W l) (hl : l.length ≤ 6) : ∀ x ∈ W, x < 18446744073709551615 := by
  intro x hx
  obtain ⟨a, ha, rfl⟩ := List.mem_iff_getElem.mp hx
  have e : W.getD a 0 = W[a] := by rw [List.getD_eq_getElem?_getD, List.getElem?_eq_getElem ha]; rfl
  have h64 : W[a] < 2 ^ 64 := by
    apply Nat.lt_pow_two_of_testBit
    intro i hi
    cases q : W[a].testBit i
    · rfl
    · rw [← e] at q; have := ((h a i).1 q).1; omega
  by_cases hm : W[a] = 18446744073709551615
  · exfalso
    have all : ∀ b < 64, ((64 * a + b : Nat) : Int) ∈ l := by
      intro b hb
      refine ((h a b).1 ?_).2
      rw [e, hm, show (18446744073709551615 : Nat) = 2 ^ 64 - 1 from rfl, Nat.testBit_two_pow_sub_one]
      simpa using hb
    have hn : ((List.range 7).map fun b => ((64 * a + b : Nat) : Int)).Nodup := by
      rw [List.nodup_iff_pairwise_ne, List.pairwise_map]
      exact List.nodup_range.imp fun hxy e => hxy (by omega)
    have := List.Nodup.length_le_of_subset hn (l₂ := l) fun z hz => by
      obtain ⟨b, hb, rfl⟩ := List.mem_map.mp hz
      exact all b (by have := List.mem_range.mp hb; omega)
    simp at this
    omega
  · omega
end Mine
end
section
open PySem PySem.W PyProof.Rows
namespace Mine
local macro_rules | `(tactic| walk_at "pad 0") => `(tactic| skip)
local macro_rules | `(tactic| walk_at "pad 1") => `(tactic| skip)
local macro_rules | `(tactic| walk_at "pad 2") => `(tactic| skip)
local macro_rules | `(tactic| walk_at "pad 3") => `(tactic| skip)
local macro_rules | `(tactic| walk_at "pad 4") => `(tactic| skip)
local macro_rules | `(tactic| walk_at "pad 5") => `(tactic| skip)
local macro_rules | `(tactic| walk_at "pad 6") => `(tactic| skip)
local macro_rules | `(tactic| walk_at "pad 7") => `(tactic| skip)
local macro_rules | `(tactic| walk_at "pad 8") => `(tactic| skip)
local macro_rules | `(tactic| walk_at "pad 9") => `(tactic| skip)
local macro_rules | `(tactic| walk_at "pad 10") => `(tactic| skip)
local macro_rules | `(tactic| walk_at "pad 11") => `(tactic| skip)
local macro_rules | `(tactic| walk_at "pad 12") => `(tactic| skip)
local macro_rules | `(tactic| walk_at "pad 13") => `(tactic| skip)
local macro_rules | `(tactic| walk_at "pad 14") => `(tactic| skip)
local macro_rules | `(tactic| walk_at "pad 15") => `(tactic| skip)
local macro_rules | `(tactic| walk_at "pad 16") => `(tactic| skip)
local macro_rules | `(tactic| walk_at "pad 17") => `(tactic| skip)
local macro_rules | `(tactic| walk_at "pad 18") => `(tactic| skip)
local macro_rules | `(tactic| walk_at "pad 19") => `(tactic| skip)
local macro_rules | `(tactic| walk_at "pad 20") => `(tactic| skip)
local macro_rules | `(tactic| walk_at "pad 21") => `(tactic| skip)
local macro_rules | `(tactic| walk_at "pad 22") => `(tactic| skip)
local macro_rules | `(tactic| walk_at "pad 23") => `(tactic| skip)
local macro_rules | `(tactic| walk_at "pad 24") => `(tactic| skip)
local macro_rules | `(tactic| walk_at "pad 25") => `(tactic| skip)
local macro_rules | `(tactic| walk_at "pad 26") => `(tactic| skip)
local macro_rules | `(tactic| walk_at "pad 27") => `(tactic| skip)
local macro_rules | `(tactic| walk_at "pad 28") => `(tactic| skip)
local macro_rules | `(tactic| walk_at "pad 29") => `(tactic| skip)
local macro_rules | `(tactic| walk_at "pad 30") => `(tactic| skip)
local macro_rules | `(tactic| walk_at "pad 31") => `(tactic| skip)
local macro_rules | `(tactic| walk_at "pad 32") => `(tactic| skip)
local macro_rules | `(tactic| walk_at "pad 33") => `(tactic| skip)
local macro_rules | `(tactic| walk_at "pad 34") => `(tactic| skip)
local macro_rules | `(tactic| walk_at "pad 35") => `(tactic| skip)
local macro_rules | `(tactic| walk_at "pad 36") => `(tactic| skip)
local macro_rules | `(tactic| walk_at "pad 37") => `(tactic| skip)
local macro_rules | `(tactic| walk_at "pad 38") => `(tactic| skip)
local macro_rules | `(tactic| walk_at "pad 39") => `(tactic| skip)
local macro_rules | `(tactic| k_room) => `(tactic| ktr_room)
local macro_rules | `(tactic| k_units) => `(tactic| ktr_units)
local macro_rules | `(tactic| walk_at "call type:set nil nil") => `(tactic| (k_here; k_dflt (refine setNew_N (by k_asm) (by k_asm) ?_); intro d' h' so' F' N' l1 hs'; (try k_lt l1)))
local macro_rules | `(tactic| walk_at "getMethod ref") => `(tactic| (k_here; (with_reducible show wpAny _ _ (getMethod (Value.ref _) (Str.ofString "add") _) _ _ _); k_dflt (refine' setMeth_N ?N ?a ?s ?_; (case N => k_asm); (case a => k_mem); (case s => assumption))))
local macro_rules | `(tactic| walk_at "call builtin:len") => `(tactic| (k_here; (with_reducible show wpAny _ _ (call (Value.builtin "len") [Value.ref _]) _ _ _); k_dflt (refine' setLen_N ?N ?a ?s ?_; (case N => k_asm); (case a => k_mem); (case s => assumption)); (try dsimp only)))
local macro_rules | `(tactic| walk_at "exec For") => `(tactic| (k_here; refine halt ?_))
local macro_rules | `(tactic| walk_at "exec For Name Call cons nil") => `(tactic| (k_here; refine halt ?_))
local macro_rules | `(tactic| walk_at "exec For Name Name cons nil") => `(tactic| (k_here; refine halt ?_))
local macro_rules | `(tactic| walk_at "exec For Name Attribute cons nil") => `(tactic| (k_here; refine halt ?_))
local macro_rules | `(tactic| walk_at "exec For Tuple Name cons nil") => `(tactic| (k_here; refine halt ?_))
local macro_rules | `(tactic| walk_at "exec For Tuple Call cons nil") => `(tactic| (k_here; refine halt ?_))
local macro_rules | `(tactic| walk_at "exec While") => `(tactic| (k_here; refine halt ?_))
local macro_rules | `(tactic| walk_at "call builtin:len") => `(tactic| (k_here; (with_reducible show wpAny _ _ (call (Value.builtin "len") [Value.ref _]) _ _ _); k_dflt (refine' KM.len_K ?N ?m ?s ?f ?_; (case N => k_asm); (case m => k_mem); (case s => assumption); (case f => omega)); (try dsimp only)))
local macro_rules | `(tactic| walk_at "call type:range") => `(tactic| (k_here; k_dflt (refine' range_N ?F ?N ?_; (case F => k_asm); (case N => k_asm)); intro r' h' tk' t1' u1' v1' R' F' N'; (try dsimp only)))
local macro_rules | `(tactic| walk_at "binaryOp Pow int int") => `(tactic| (k_here; (with_reducible refine natPow ?a ?_; (case a => omega)); (try dsimp only)))
local macro_rules | `(tactic| walk_at "binaryOp FloorDiv int int") => `(tactic| (k_here; (with_reducible refine natDivPow ?a ?_; (case a => omega)); (try dsimp only)))
local macro_rules | `(tactic| walk_at "binaryOp Mod int int") => `(tactic| (k_here; (with_reducible refine natMod2 ?_); (try dsimp only)))
local macro_rules | `(tactic| walk_at "call builtin:set.add") => `(tactic| (k_here; (with_reducible show wpAny _ _ (call (Value.builtin "set.add") [Value.ref _, Value.int _ _]) _ _ _); k_dflt (refine' setAdd_N ?F ?N ?U ?s ?r ?k ?_; (case F => k_asm); (case N => k_asm); (case U => k_updF); (case s => assumption); (case r => omega); (case k => assumption)); intro h' o' ks' F' N' s' p'; (try dsimp only at N')))
local macro_rules | `(tactic| walk_at "eval ListComp") => `(tactic| (k_here; refine halt ?_))
local macro_rules | `(tactic| walk_at "exec Assign cons ListComp") => `(tactic| (k_here; refine halt ?_))
local macro_rules | `(tactic| walk_at "SrcLP") => `(tactic| (k_here; refine halt ?_))
local macro_rules | `(tactic| walk_at "CompSrc") => `(tactic| (k_here; refine halt ?_))
local macro_rules | `(tactic| walk_at "CompEnd") => `(tactic| (k_here; refine halt ?_))
local macro_rules | `(tactic| walk_at "binaryOp BitXor") => `(tactic| (k_here; (with_reducible show wpAny _ _ (binaryOp _ (Value.ref _) (Value.ref _)) _ _ _); k_dflt (refine' binop_K ?k1 ?k2 ?k3 ?k4 ?k5 ?k6 ?k7 ?_; (case k1 => k_asm); (case k2 => k_asm); (case k3 => k_inst); (case k4 => k_typeOf); (case k5 => k_is); (case k6 => k_is); (case k7 => k_is); k_whole)))
local macro_rules | `(tactic| walk_at "binaryOp BitXor int int") => `(tactic| (k_here; (with_reducible refine natXor ?_); (try dsimp only)))
local macro_rules | `(tactic| walk_at "subscriptTail") => `(tactic| (k_here; (with_reducible show wpAny _ _ (subscriptTail _ _ (Value.ref _) (Value.int _ _)) _ _ _); k_dflt (refine' itemL_N ?N ?m ?i ?x ?_; (case N => k_asm); (case m => k_mem); (case x => assumption); (case i => omega))))
local macro_rules | `(tactic| walk_at "binaryOp Add ref ref") => `(tactic| (k_here; (with_reducible show wpAny _ _ (binaryOp _ (Value.ref _) (Value.ref _)) _ _ _); k_dflt (refine' addL_N ?F ?N ?a ?b ?z ?_; (case F => k_asm); (case N => k_asm); (case a => k_mem); (case b => k_mem); (case z => first | assumption | omega)); intro D' h' F' N' l1; (try k_lt l1)))
local macro_rules | `(tactic| k_mem) => `(tactic| first | ktr_member | with_reducible assumption | exact List.mem_cons_self | ((with_reducible refine List.mem_cons_of_mem _ ?_); k_mem) | ((with_reducible refine List.mem_append_left _ ?_); k_mem) | ((with_reducible refine List.mem_append_right _ ?_); k_mem))
local macro_rules | `(tactic| walk_at "call builtin:list.append") => `(tactic| (k_here; (with_reducible show wpAny _ _ (call (Value.builtin _) [Value.ref _, _]) _ _ _); k_dflt (refine' append_K ?k1 ?k2 ?k3 ?_ ?z; (case k1 => k_asm); (case k2 => k_asm); (case k3 => k_upd); (case z => exact Nat.le_trans (m := 16384) (by omega) (by decide))); intro h' F' N'))

local macro_rules | `(tactic| walk_at "binaryOp BitXor") => `(tactic| (k_here; (with_reducible show wpAny _ _ (binaryOp _ (Value.ref _) (Value.ref _)) _ _ _); k_dflt (refine' setXor_N ?F ?N ?a ?sa ?b ?sb ?r ?_; (case F => k_asm); (case N => k_asm); (case a => k_mem); (case sa => assumption); (case b => k_mem); (case sb => assumption); (case r => omega)); intro d' h' so' ks' F' N' l1 hs' hm'; (try k_lt l1)))
local macro_rules | `(tactic| walk_at "binaryOp BitAnd") => `(tactic| (k_here; (with_reducible show wpAny _ _ (binaryOp _ (Value.ref _) (Value.ref _)) _ _ _); k_dflt (refine' setAnd_N ?F ?N ?ab ?a ?sa ?b ?sb ?r ?r2 ?_; (case F => k_asm); (case N => k_asm); (case a => k_mem); (case sa => assumption); (case b => k_mem); (case sb => assumption); (case ab => k_ne);  (case r => omega); (case r2 => omega)); intro d' h' so' ks' F' N' l1 hs' hm'; (try k_lt l1)))

set_option maxRecDepth 100000 in
set_option maxHeartbeats 8000000 in
theorem xor_c : ∀ (w : World) (x y : Addr) (b b' : Addr) (S S' S'' : List Int), S.length ≤ 7 → S'.length ≤ 7 → (∀ i, i ∈ S'' ↔ ¬ (i ∈ S ↔ i ∈ S')) →
    Calls w 20 200 171 [.ref x, .ref y] (fun news => BM w news (.ref x) b S ∧ BM w news (.ref y) b' S') (BMnew w S'') := by
  unfold Calls
  k_fill
  intro w x y bx yb S S' S'' hl hl' hS mean mg mb dp un gd cn cs a ccd cl outer A₀ base h₀ L m news s Q E B F X N T hk hdp hun ⟨h1, h2⟩ ret
  obtain ⟨x, dx, c, t1, t2, t3, so, ks, e1, hx, hdx, hbx, hsx, hm1⟩ := h1
  obtain ⟨y, dy, c', t1', t2', t3', so', js, e2, hy, hdy, hby, hsy, hm2⟩ := h2
  cases e1; cases e2
  have := len_le hsx.nodup hm1
  have := len_le hsy.nodup hm2
  refine wpAny_call ?_
  k_dflt ktr_enter
  k_steps
  exact ret _ _ _ _ (by k_asm) (News.drop2 (by k_asm)) ⟨_, _, _, _, _, _, _, _, _, rfl, rfl, (by assumption), (by omega), (by omega), (by assumption), iff_xor hS hm1 hm2 (by assumption)⟩

set_option maxRecDepth 100000 in
set_option maxHeartbeats 8000000 in
theorem and_c : ∀ (w : World) (x y : Addr) (b b' : Addr) (S S' S'' : List Int), S.length ≤ 7 → S'.length ≤ 7 → (b : Nat) ≠ b' → (∀ i, i ∈ S'' ↔ (i ∈ S ∧ i ∈ S')) →
    Calls w 20 200 164 [.ref x, .ref y] (fun news => BM w news (.ref x) b S ∧ BM w news (.ref y) b' S') (BMnew w S'') := by
  unfold Calls
  k_fill
  intro w x y bx yb S S' S'' hl hl' hbb hS mean mg mb dp un gd cn cs a ccd cl outer A₀ base h₀ L m news s Q E B F X N T hk hdp hun ⟨h1, h2⟩ ret
  obtain ⟨x, dx, c, t1, t2, t3, so, ks, e1, hx, hdx, hbx, hsx, hm1⟩ := h1
  obtain ⟨y, dy, c', t1', t2', t3', so', js, e2, hy, hdy, hby, hsy, hm2⟩ := h2
  cases e1; cases e2
  have := len_le hsx.nodup hm1
  have := len_le hsy.nodup hm2
  refine wpAny_call ?_
  k_dflt ktr_enter
  k_steps
  exact ret _ _ _ _ (by k_asm) (News.drop2 (by k_asm)) ⟨_, _, _, _, _, _, _, _, _, rfl, rfl, (by assumption), (by omega), (by omega), (by assumption), iff_and hS hm1 hm2 (by assumption)⟩

set_option maxRecDepth 100000 in
set_option maxHeartbeats 8000000 in
theorem len_c : ∀ (w : World) (x : Addr) (b : Addr) (S : List Int), S.Nodup →
    Calls w 20 200 150 [.ref x] (fun news => BM w news (.ref x) b S) (fun news news' r => news' = news ∧ ∃ t, r = .int S.length t) := by
  unfold Calls
  k_fill
  intro w x bx S hl mean mg mb dp un gd cn cs a ccd cl outer A₀ base h₀ L m news s Q E B F X N T hk hdp hun h1 ret
  obtain ⟨x, dx, c, t1, t2, t3, so, ks, e1, hx, hdx, hbx, hsx, hm1⟩ := h1
  cases e1
  refine wpAny_call ?_
  k_dflt ktr_enter
  k_steps
  exact ret _ _ _ _ (by k_asm) (by k_asm) ⟨rfl, _, by rw [len_eq hsx.nodup hl hm1]⟩
theorem xor_sel {w : World} {x y b b' : Addr} {pl : List Int} {W M : Nat} (hpl : pl.length ≤ 6) (hn : pl.Nodup) : Calls w 20 200 171 [.ref x, .ref y] (fun news => BM w news (.ref x) b (sel pl W) ∧ BM w news (.ref y) b' (sel pl M)) (BMnew w (sel pl (W ^^^ M))) :=
  xor_c w x y b b' _ _ _ (by have := sel_len pl W; omega) (by have := sel_len pl M; omega) fun i => sel_xor hn W M i
theorem and_sel {w : World} {x y b b' : Addr} {pl : List Int} {W M : Nat} (hpl : pl.length ≤ 6) (hn : pl.Nodup) (hb : (b : Nat) ≠ b') : Calls w 20 200 164 [.ref x, .ref y] (fun news => BM w news (.ref x) b (sel pl W) ∧ BM w news (.ref y) b' (sel pl M)) (BMnew w (sel pl (W &&& M))) :=
  and_c w x y b b' _ _ _ (by have := sel_len pl W; omega) (by have := sel_len pl M; omega) hb fun i => sel_and hn W M i
theorem len_sel {w : World} {x b : Addr} {pl : List Int} {W : Nat} (hn : pl.Nodup) : Calls w 20 200 150 [.ref x] (fun news => BM w news (.ref x) b (sel pl W)) (fun news news' r => news' = news ∧ ∃ t, r = .int (sel pl W).length t) :=
  len_c w x b _ (sel_nodup hn W)
end Mine
end
section
open PySem PySem.W PyProof.Rows
set_option maxRecDepth 100000
namespace Mine
section
variable {prog : Program} {w : World} {A : Around} {E : Value → Shared → Prop} {s : Shared} {h₀ : Heap} {L D : Addr} {m : Str → Option Value} {news : List (Addr × Obj)} {b c : Array UInt8} {t u : Tok} {Q : Value → Shared → Prop} {value slice : PySem.Expr}
theorem ext_left {k : Nat} (h : b.size = k) : (b ++ c).extract 0 k = b := by
  subst h; rw [Array.extract_append_left]; simp
theorem ext_right {k : Nat} (h : b.size = k) : (b ++ c).extract k (b ++ c).size = c := by
  subst h
  rw [Array.extract_append, Array.size_append]
  simp
theorem sliceToA_N {k : Nat} (hF : Fr h₀ L s.heap m) (hN : News h₀ L s.heap news) (hb : b.size = k) (hz : c.size ≤ 16777000) (hk : k ≤ 200)
    (h : ∀ h' t' tk, Fr h₀ L h' m → News h₀ L h' news → Q (.bytes b t') { s with heap := h', toks := tk })
    (hs : subscripted slice false (.bytes (b ++ c) t) (.ref s.heap.objs.size) = operate [.ref s.heap.objs.size, .bytes (b ++ c) t] (getItem (.bytes (b ++ c) t) (.ref s.heap.objs.size)) := by with_unfolding_all rfl)
    (ht : ∀ r, letTemporaryGo value (.bytes (b ++ c) t) r = pure () := by intro _; with_unfolding_all rfl) :
    wpAny (model prog w) A (subscriptTail value slice (.bytes (b ++ c) t) (.ref s.heap.objs.size)) Q E { s with heap := s.heap.push { cls := .type "slice", data := .fields #[.none, .int (k : Nat) u, .none] } } :=
  sliceTo_N hF hN (by rw [Array.size_append]; omega) (fun h' t' tk F' N' => by rw [ext_left hb]; exact h h' t' tk F' N') hs ht
theorem sliceToA4_N (hF : Fr h₀ L s.heap m) (hN : News h₀ L s.heap news) (hb : b.size = 4) (hz : c.size ≤ 16777000)
    (h : ∀ h' t' tk, Fr h₀ L h' m → News h₀ L h' news → Q (.bytes b t') { s with heap := h', toks := tk })
    (hs : subscripted slice false (.bytes (b ++ c) t) (.ref s.heap.objs.size) = operate [.ref s.heap.objs.size, .bytes (b ++ c) t] (getItem (.bytes (b ++ c) t) (.ref s.heap.objs.size)) := by with_unfolding_all rfl)
    (ht : ∀ r, letTemporaryGo value (.bytes (b ++ c) t) r = pure () := by intro _; with_unfolding_all rfl) :
    wpAny (model prog w) A (subscriptTail value slice (.bytes (b ++ c) t) (.ref s.heap.objs.size)) Q E { s with heap := s.heap.push { cls := .type "slice", data := .fields #[.none, .int 4 u, .none] } } :=
  sliceToA_N (k := 4) hF hN hb hz (by decide) h hs ht
theorem sliceToA8_N (hF : Fr h₀ L s.heap m) (hN : News h₀ L s.heap news) (hb : b.size = 8) (hz : c.size ≤ 16777000)
    (h : ∀ h' t' tk, Fr h₀ L h' m → News h₀ L h' news → Q (.bytes b t') { s with heap := h', toks := tk })
    (hs : subscripted slice false (.bytes (b ++ c) t) (.ref s.heap.objs.size) = operate [.ref s.heap.objs.size, .bytes (b ++ c) t] (getItem (.bytes (b ++ c) t) (.ref s.heap.objs.size)) := by with_unfolding_all rfl)
    (ht : ∀ r, letTemporaryGo value (.bytes (b ++ c) t) r = pure () := by intro _; with_unfolding_all rfl) :
    wpAny (model prog w) A (subscriptTail value slice (.bytes (b ++ c) t) (.ref s.heap.objs.size)) Q E { s with heap := s.heap.push { cls := .type "slice", data := .fields #[.none, .int 8 u, .none] } } :=
  sliceToA_N (k := 8) hF hN hb hz (by decide) h hs ht
theorem sliceFromA_N (hF : Fr h₀ L s.heap m) (hN : News h₀ L s.heap news) (hz : b.size + c.size ≤ 16777216)
    (h : ∀ h' t' tk, Fr h₀ L h' m → News h₀ L h' news → Q (.bytes c t') { s with heap := h', toks := tk })
    (hs : subscripted slice false (.bytes (b ++ c) t) (.ref s.heap.objs.size) = operate [.ref s.heap.objs.size, .bytes (b ++ c) t] (getItem (.bytes (b ++ c) t) (.ref s.heap.objs.size)) := by with_unfolding_all rfl)
    (ht : ∀ r, letTemporaryGo value (.bytes (b ++ c) t) r = pure () := by intro _; with_unfolding_all rfl) :
    wpAny (model prog w) A (subscriptTail value slice (.bytes (b ++ c) t) (.ref s.heap.objs.size)) Q E { s with heap := s.heap.push { cls := .type "slice", data := .fields #[.int (b.size : Nat) u, .none, .none] } } :=
  sliceFrom_N hF hN (by rw [Array.size_append]; exact hz) (fun h' t' tk F' N' => by rw [ext_right rfl]; exact h h' t' tk F' N') hs ht
theorem unpackI_N {n : Nat} (F : Fr h₀ L s.heap m) (N : News h₀ L s.heap news) (hn : n < 2 ^ 32)
    (h : ∀ D h' t', Fr h₀ L h' m → News h₀ L h' ((D, { cls := .type "tuple", data := .seq #[.int (n : Nat) t'] }) :: news) → (∀ p ∈ news, p.1 < D) → Q (.ref D) { s with heap := h', toks := s.toks + 1 }) :
    wpAny (model prog w) A (call (.builtin "_struct.unpack") [.str (Str.ofString ">I") t, .bytes (beBytes 4 n) u]) Q E s := by
  refine unpackI_rule (beBytes_size 4 n) ?_
  rw [natOf_be (show n < 256 ^ 4 from hn)]
  exact h _ _ _ (F.push _) (news_grow F N (fun c oc e => Heap.get?_push_of_some _ e) rfl (Heap.get?_push_size _ rfl)) (news_lt N)
theorem unpackQ_N {n : Nat} (F : Fr h₀ L s.heap m) (N : News h₀ L s.heap news) (hn : n < 2 ^ 64)
    (h : ∀ D h' t', Fr h₀ L h' m → News h₀ L h' ((D, { cls := .type "tuple", data := .seq #[.int (n : Nat) t'] }) :: news) → (∀ p ∈ news, p.1 < D) → Q (.ref D) { s with heap := h', toks := s.toks + 1 }) :
    wpAny (model prog w) A (call (.builtin "_struct.unpack") [.str (Str.ofString ">Q") t, .bytes (beBytes 8 n) u]) Q E s := by
  refine unpackQ_rule (beBytes_size 8 n) ?_
  rw [natOf_be (show n < 256 ^ 8 from hn)]
  exact h _ _ _ (F.push _) (news_grow F N (fun c oc e => Heap.get?_push_of_some _ e) rfl (Heap.get?_push_size _ rfl)) (news_lt N)
theorem natMul64 {a : Nat} {t u : Tok} (ha : a < 1000000) (h : Q (.int ((a * 64 : Nat) : Int) s.toks) { s with toks := s.toks + 1 }) : wpAny (model prog w) A (binaryOp .Mult (.int (a : Nat) t) (.int 64 u)) Q E s :=
  PyProof.Rows.mul_int (by simpa using h)
theorem natAdd {a b : Nat} {t u : Tok} (h : Q (.int ((a + b : Nat) : Int) s.toks) { s with toks := s.toks + 1 }) : wpAny (model prog w) A (binaryOp .Add (.int (a : Nat) t) (.int (b : Nat) u)) Q E s := PyProof.Rows.add_int (by simpa using h)
theorem natIadd {a b : Nat} {t u : Tok} (h : Q (.int ((a + b : Nat) : Int) s.toks) { s with toks := s.toks + 1 }) : wpAny (model prog w) A (inplaceOp .Add (.int (a : Nat) t) (.int (b : Nat) u)) Q E s := PyProof.Rows.iadd_int (by simpa using h)
theorem natShr1 {a : Nat} {t u : Tok} (h : Q (.int ((a / 2 : Nat) : Int) s.toks) { s with toks := s.toks + 1 }) : wpAny (model prog w) A (binaryOp .RShift (.int (a : Nat) t) (.int 1 u)) Q E s :=
  rshift_int (by decide) (by
    have e : (a : Int).fdiv (2 ^ (1 : Int).toNat) = ((a / 2 : Nat) : Int) := by
      rw [Int.fdiv_eq_ediv_of_nonneg _ (by decide)]; simp
    exact e ▸ h)
theorem natShr33 {a : Nat} {t u : Tok} (h : Q (.int ((a / 2 ^ 33 : Nat) : Int) s.toks) { s with toks := s.toks + 1 }) : wpAny (model prog w) A (binaryOp .RShift (.int (a : Nat) t) (.int 33 u)) Q E s :=
  rshift_int (by decide) (by
    have e : (a : Int).fdiv (2 ^ (33 : Int).toNat) = ((a / 2 ^ 33 : Nat) : Int) := by
      rw [Int.fdiv_eq_ediv_of_nonneg _ (by decide)]; simp
    exact e ▸ h)
theorem natAnd1 {a : Nat} {t u : Tok} (h : Q (.int ((a % 2 : Nat) : Int) s.toks) { s with toks := s.toks + 1 }) : wpAny (model prog w) A (binaryOp .BitAnd (.int (a : Nat) t) (.int 1 u)) Q E s :=
  natAnd (b := 1) (by rw [Nat.and_one_is_mod]; exact h)
theorem natAndM {a : Nat} {t u : Tok} (h : Q (.int ((a % 2 ^ 32 : Nat) : Int) s.toks) { s with toks := s.toks + 1 }) : wpAny (model prog w) A (binaryOp .BitAnd (.int (a : Nat) t) (.int 4294967295 u)) Q E s :=
  natAnd (b := 4294967295) (by rw [show (4294967295 : Nat) = 2 ^ 32 - 1 from rfl, Nat.and_two_pow_sub_one_eq_mod]; exact h)
/-- a word and one bit -/
theorem natAndBit {a j : Nat} {t u : Tok} (h : Q (.int ((if a.testBit j then 2 ^ j else 0 : Nat) : Int) s.toks) { s with toks := s.toks + 1 }) : wpAny (model prog w) A (binaryOp .BitAnd (.int (a : Nat) t) (.int ((2 ^ j : Nat) : Int) u)) Q E s :=
  natAnd (by
    have e : a &&& 2 ^ j = if a.testBit j then 2 ^ j else 0 := by
      apply Nat.eq_of_testBit_eq
      intro i
      rw [Nat.testBit_and, Nat.testBit_two_pow]
      by_cases e : j = i
      · subst e; cases q : a.testBit j <;> simp
      · have : decide (j = i) = false := decide_eq_false e
        rw [this, Bool.and_false]
        split
        · rw [Nat.testBit_two_pow, this]
        · rw [Nat.zero_testBit]
    rw [e]; exact h)
theorem itemW_N {its : Array Value} {n i : Nat} {W : List Nat} (N : News h₀ L s.heap news) (hm : (D, listOf its n) ∈ news) (hI : IntsAre its.toList (nats W)) (hi : i < W.length) (hf : i < 2 ^ 62) (h : ∀ t, Q (.int ((W.getD i 0 : Nat) : Int) t) s)
    (hs : subscripted slice false (.ref D) (.int i u) = operate [.ref D, .int i u] (getItem (.ref D) (.int i u)) := by with_unfolding_all rfl) :
    wpAny (model prog w) A (subscriptTail value slice (.ref D) (.int (i : Nat) u)) Q E s :=
  tail_any (News.isList N hm).typeIs slot_list_getitem.lookup (getW_N N hm hI hi hf h) hs
end
end Mine
end
section
open PySem PySem.W PyProof.Rows
set_option maxRecDepth 100000
namespace Mine
/-- the bits of the first N words -/
def BitsTo (W : List Nat) (N : Nat) (ks : List Int) : Prop := ∀ z : Int, z ∈ ks ↔ ∃ i j : Nat, i < N ∧ j < 64 ∧ z = ((64 * i + j : Nat) : Int) ∧ (W.getD i 0).testBit j = true
/-- and the first q bits of the next -/
def BitsIn (W : List Nat) (N q : Nat) (ks : List Int) : Prop := ∀ z : Int, z ∈ ks ↔ ∃ i j : Nat, (i < N ∨ (i = N ∧ j < q)) ∧ j < 64 ∧ z = ((64 * i + j : Nat) : Int) ∧ (W.getD i 0).testBit j = true
theorem BitsTo.start {W : List Nat} {N : Nat} {ks : List Int} (h : BitsTo W N ks) : BitsIn W N 0 ks := fun z => by
  rw [h]
  constructor
  · rintro ⟨i, j, h1, h2⟩; exact ⟨i, j, .inl h1, h2⟩
  · rintro ⟨i, j, h1 | h1, h2⟩
    · exact ⟨i, j, h1, h2⟩
    · omega
theorem BitsIn.done {W : List Nat} {N : Nat} {ks : List Int} (h : BitsIn W N 64 ks) : BitsTo W (N + 1) ks := fun z => by
  rw [h]
  constructor
  · rintro ⟨i, j, h1, h2⟩; exact ⟨i, j, by omega, h2⟩
  · rintro ⟨i, j, h1, h2, h3⟩; exact ⟨i, j, by omega, h2, h3⟩
theorem BitsIn.skip {W : List Nat} {N q : Nat} {ks : List Int} (h : BitsIn W N q ks) (hb : (W.getD N 0).testBit q = false) : BitsIn W N (q + 1) ks := fun z => by
  rw [h]
  constructor
  · rintro ⟨i, j, h1, h2⟩; exact ⟨i, j, by omega, h2⟩
  · rintro ⟨i, j, h1, h2, h3, h4⟩
    refine ⟨i, j, ?_, h2, h3, h4⟩
    rcases h1 with h1 | ⟨h1, h5⟩
    · exact .inl h1
    · by_cases e : j = q
      · subst h1; subst e; rw [hb] at h4; cases h4
      · exact .inr ⟨h1, by omega⟩
theorem BitsIn.add {W : List Nat} {N q : Nat} {ks ks' : List Int} (h : BitsIn W N q ks) (hq : q < 64) (hb : (W.getD N 0).testBit q = true) (hp : List.Perm ks' (((64 * N + q : Nat) : Int) :: ks)) : BitsIn W N (q + 1) ks' := fun z => by
  rw [hp.mem_iff, List.mem_cons, h]
  constructor
  · rintro (rfl | ⟨i, j, h1, h2⟩)
    · exact ⟨N, q, by omega, hq, rfl, hb⟩
    · exact ⟨i, j, by omega, h2⟩
  · rintro ⟨i, j, h1, h2, h3, h4⟩
    by_cases e : i = N ∧ j = q
    · left; rw [h3, e.1, e.2]
    · right; exact ⟨i, j, by omega, h2, h3, h4⟩
theorem BitsIn.new {W : List Nat} {N q : Nat} {ks : List Int} (h : BitsIn W N q ks) (hq : q < 64) : ((64 * N + q : Nat) : Int) ∉ ks := by
  rw [h]
  rintro ⟨i, j, h1, h2, h3, h4⟩
  omega
theorem BitsTo.zeros {W : List Nat} {N r : Nat} {ks : List Int} (h : BitsTo W N ks) (hz : ∀ i, N ≤ i → i < N + r → W.getD i 0 = 0) : BitsTo W (N + r) ks := fun z => by
  rw [h]
  constructor
  · rintro ⟨i, j, h1, h2⟩; exact ⟨i, j, by omega, h2⟩
  · rintro ⟨i, j, h1, h2, h3, h4⟩
    by_cases e : i < N
    · exact ⟨i, j, e, h2, h3, h4⟩
    · rw [hz i (by omega) h1, Nat.zero_testBit] at h4; cases h4
theorem BitsIn.sub {W : List Nat} {N q : Nat} {ks S : List Int} (h : BitsIn W N q ks) (hS : ∀ z : Int, z ∈ S ↔ ∃ i j : Nat, j < 64 ∧ z = ((64 * i + j : Nat) : Int) ∧ (W.getD i 0).testBit j = true) : ∀ z ∈ ks, z ∈ S := fun z hz => by
  obtain ⟨i, j, _, h2⟩ := (h z).1 hz
  exact (hS z).2 ⟨i, j, h2⟩
theorem BitsTo.all {W : List Nat} {ks S : List Int} (h : BitsTo W W.length ks) (hS : ∀ z : Int, z ∈ S ↔ ∃ i j : Nat, j < 64 ∧ z = ((64 * i + j : Nat) : Int) ∧ (W.getD i 0).testBit j = true) : ∀ z, z ∈ ks ↔ z ∈ S := fun z => by
  rw [h, hS]
  constructor
  · rintro ⟨i, j, _, h2⟩; exact ⟨i, j, h2⟩
  · rintro ⟨i, j, h2, h3, h4⟩
    refine ⟨i, j, ?_, h2, h3, h4⟩
    by_cases e : i < W.length
    · exact e
    · rw [List.getD_eq_getElem?_getD, List.getElem?_eq_none (by omega), Option.getD_none, Nat.zero_testBit] at h4; cases h4
theorem at_dn {dn wr : List Nat} {i : Nat} : (dn ++ wr).getD (dn.length + i) 0 = wr.getD i 0 := by
  rw [List.getD_eq_getElem?_getD, List.getElem?_append_right (by omega), Nat.add_sub_cancel_left, ← List.getD_eq_getElem?_getD]
theorem zeros_at {dn lits ws : List Nat} {r i : Nat} (h1 : dn.length ≤ i) (h2 : i < dn.length + r) : (dn ++ (List.replicate r 0 ++ lits ++ ws)).getD i 0 = 0 := by
  obtain ⟨k, rfl⟩ := Nat.exists_eq_add_of_le h1
  rw [at_dn, List.append_assoc, List.getD_eq_getElem?_getD, List.getElem?_append_left (by rw [List.length_replicate]; omega), List.getElem?_replicate, if_pos (by omega)]; rfl
theorem lit_at {dn lits ws cw cw' : List Nat} {r q X idx : Nat} (hq : q < lits.length) (hl : cw.drop idx = X :: (lits ++ cw')) : cw.getD (idx + 1 + q) 0 = (dn ++ (List.replicate r 0 ++ lits ++ ws)).getD (dn.length + r + q) 0 := by
  have e1 : (List.replicate r 0).length = r := List.length_replicate
  have e2 : (dn ++ (List.replicate r 0 ++ lits ++ ws)).getD (dn.length + r + q) 0 = lits.getD q 0 := by
    rw [Nat.add_assoc, at_dn, List.append_assoc]
    have := at_dn (dn := List.replicate r 0) (wr := lits ++ ws) (i := q)
    rw [e1] at this
    rw [this, List.getD_eq_getElem?_getD, List.getElem?_append_left hq, ← List.getD_eq_getElem?_getD]
  rw [e2]
  have e3 : cw.getD (idx + 1 + q) 0 = (cw.drop idx).getD (1 + q) 0 := by
    rw [List.getD_eq_getElem?_getD, List.getD_eq_getElem?_getD, List.getElem?_drop, Nat.add_assoc]
  rw [e3, hl, Nat.add_comm 1 q, List.getD_cons_succ, List.getD_eq_getElem?_getD, List.getElem?_append_left hq, ← List.getD_eq_getElem?_getD]
theorem drop_lits {cw cw' lits : List Nat} {X idx : Nat} (hl : cw.drop idx = X :: (lits ++ cw')) : cw.drop (idx + 1 + lits.length) = cw' := by
  rw [← List.drop_drop, ← List.drop_drop, hl, List.drop_succ_cons, List.drop_zero, List.drop_left]
theorem Nlen {dn lits : List Nat} {r : Nat} : (dn ++ (List.replicate r 0 ++ lits)).length = dn.length + r + lits.length := by
  rw [List.length_append, List.length_append, List.length_replicate]; omega
theorem bit_pos {a j : Nat} (h : ((if a.testBit j then 2 ^ j else 0 : Nat) : Int) ≠ 0) : a.testBit j = true := by
  cases q : a.testBit j
  · rw [q] at h; exact absurd rfl h
  · rfl
theorem bit_neg {a j : Nat} (h : ((if a.testBit j then 2 ^ j else 0 : Nat) : Int) = 0) : a.testBit j = false := by
  cases q : a.testBit j
  · rfl
  · rw [q] at h; have := Nat.two_pow_pos j; simp only [if_true] at h; omega
section
variable {prog : Program} {w : World} {A : Around} {E : Value → Shared → Prop} {s : Shared} {t u : Tok} {Q : Value → Shared → Prop}
theorem natIadd1 {a : Nat} (h : Q (.int ((a + 1 : Nat) : Int) s.toks) { s with toks := s.toks + 1 }) : wpAny (model prog w) A (inplaceOp .Add (.int (a : Nat) t) (.int 1 u)) Q E s := PyProof.Rows.iadd_int (by simpa using h)
theorem natIadd64 {a : Nat} (h : Q (.int ((a + 64 : Nat) : Int) s.toks) { s with toks := s.toks + 1 }) : wpAny (model prog w) A (inplaceOp .Add (.int (a : Nat) t) (.int 64 u)) Q E s := PyProof.Rows.iadd_int (by simpa using h)
theorem natAdd64 {a : Nat} (h : Q (.int ((a + 64 : Nat) : Int) s.toks) { s with toks := s.toks + 1 }) : wpAny (model prog w) A (binaryOp .Add (.int (a : Nat) t) (.int 64 u)) Q E s := PyProof.Rows.add_int (by simpa using h)
end
theorem News.drop3 {h₀ h : Heap} {L : Addr} {p1 p2 p3 : Addr × Obj} {l : List (Addr × Obj)} (N : News h₀ L h (p1 :: p2 :: p3 :: l)) : News h₀ L h l :=
  News.sub' N fun p hp => by simp only [List.mem_cons]; simp [hp]
theorem While_J0 {prog : Program} {w : World} {A : Around} {E : Value → Shared → Prop} {Q : Flow → Shared → Prop} {s : Shared} {env : Env} {h₀ : Heap} {L : Addr} {test : Expr} {body : List Stmt} {pos : Pos} {m : Str → Option Value} {news : List (Addr × Obj)}
    (J : Nat → (Str → Option Value) → List (Addr × Obj) → Prop) (n₀ : Nat) (F : Fr h₀ L s.heap m) (N : News h₀ L s.heap news) (hJ : J n₀ m news)
    (turn : ∀ n m₁ nw h tk, Fr h₀ L h m₁ → News h₀ L h nw → J n m₁ nw →
      wpAny (model prog w) A (isTrue test env (eval test env)) (fun b s₂ => if b = true then wpAny (model prog w) A (execs body env) (WhileStep h₀ L s J n) (fun _ _ => False) s₂ else WhileOut h₀ L s (J 0) s₂) (fun _ _ => False) { s with heap := h, toks := tk })
    (done : ∀ m₂ nw h tk, J 0 m₂ nw → Fr h₀ L h m₂ → News h₀ L h nw → Q .next { s with heap := h, toks := tk }) :
    wpAny (model prog w) A (exec (.While test body [] pos) env) Q E s := While_J J (J 0) n₀ F N hJ turn done
end Mine
end
section
open PySem PySem.W PyProof.Rows
namespace Mine
local macro_rules | `(tactic| walk_at "pad 0") => `(tactic| skip)
local macro_rules | `(tactic| walk_at "pad 1") => `(tactic| skip)
local macro_rules | `(tactic| walk_at "pad 2") => `(tactic| skip)
local macro_rules | `(tactic| walk_at "pad 3") => `(tactic| skip)
local macro_rules | `(tactic| walk_at "pad 4") => `(tactic| skip)
local macro_rules | `(tactic| walk_at "pad 5") => `(tactic| skip)
local macro_rules | `(tactic| walk_at "pad 6") => `(tactic| skip)
local macro_rules | `(tactic| walk_at "pad 7") => `(tactic| skip)
local macro_rules | `(tactic| walk_at "pad 8") => `(tactic| skip)
local macro_rules | `(tactic| walk_at "pad 9") => `(tactic| skip)
local macro_rules | `(tactic| walk_at "pad 10") => `(tactic| skip)
local macro_rules | `(tactic| walk_at "pad 11") => `(tactic| skip)
local macro_rules | `(tactic| walk_at "pad 12") => `(tactic| skip)
local macro_rules | `(tactic| walk_at "pad 13") => `(tactic| skip)
local macro_rules | `(tactic| walk_at "pad 14") => `(tactic| skip)
local macro_rules | `(tactic| walk_at "pad 15") => `(tactic| skip)
local macro_rules | `(tactic| walk_at "pad 16") => `(tactic| skip)
local macro_rules | `(tactic| walk_at "pad 17") => `(tactic| skip)
local macro_rules | `(tactic| walk_at "pad 18") => `(tactic| skip)
local macro_rules | `(tactic| walk_at "pad 19") => `(tactic| skip)
local macro_rules | `(tactic| walk_at "pad 20") => `(tactic| skip)
local macro_rules | `(tactic| walk_at "pad 21") => `(tactic| skip)
local macro_rules | `(tactic| walk_at "pad 22") => `(tactic| skip)
local macro_rules | `(tactic| walk_at "pad 23") => `(tactic| skip)
local macro_rules | `(tactic| walk_at "pad 24") => `(tactic| skip)
local macro_rules | `(tactic| walk_at "pad 25") => `(tactic| skip)
local macro_rules | `(tactic| walk_at "pad 26") => `(tactic| skip)
local macro_rules | `(tactic| walk_at "pad 27") => `(tactic| skip)
local macro_rules | `(tactic| walk_at "pad 28") => `(tactic| skip)
local macro_rules | `(tactic| walk_at "pad 29") => `(tactic| skip)
local macro_rules | `(tactic| walk_at "pad 30") => `(tactic| skip)
local macro_rules | `(tactic| walk_at "pad 31") => `(tactic| skip)
local macro_rules | `(tactic| walk_at "pad 32") => `(tactic| skip)
local macro_rules | `(tactic| walk_at "pad 33") => `(tactic| skip)
local macro_rules | `(tactic| walk_at "pad 34") => `(tactic| skip)
local macro_rules | `(tactic| walk_at "pad 35") => `(tactic| skip)
local macro_rules | `(tactic| walk_at "pad 36") => `(tactic| skip)
local macro_rules | `(tactic| walk_at "pad 37") => `(tactic| skip)
local macro_rules | `(tactic| k_room) => `(tactic| ktr_room)
local macro_rules | `(tactic| k_units) => `(tactic| ktr_units)
local macro_rules | `(tactic| walk_at "call type:set nil nil") => `(tactic| (k_here; k_dflt (refine setNew_N (by k_asm) (by k_asm) ?_); intro d' h' so' F' N' l1 hs'; (try k_lt l1)))
local macro_rules | `(tactic| walk_at "getMethod ref") => `(tactic| (k_here; (with_reducible show wpAny _ _ (getMethod (Value.ref _) (Str.ofString "add") _) _ _ _); k_dflt (refine' setMeth_N ?N ?a ?s ?_; (case N => k_asm); (case a => k_mem); (case s => assumption))))
local macro_rules | `(tactic| walk_at "call builtin:len") => `(tactic| (k_here; (with_reducible show wpAny _ _ (call (Value.builtin "len") [Value.ref _]) _ _ _); k_dflt (refine' setLen_N ?N ?a ?s ?_; (case N => k_asm); (case a => k_mem); (case s => assumption)); (try dsimp only)))
local macro_rules | `(tactic| walk_at "exec For") => `(tactic| (k_here; refine halt ?_))
local macro_rules | `(tactic| walk_at "exec For Name Call cons nil") => `(tactic| (k_here; refine halt ?_))
local macro_rules | `(tactic| walk_at "exec For Name Name cons nil") => `(tactic| (k_here; refine halt ?_))
local macro_rules | `(tactic| walk_at "exec For Name Attribute cons nil") => `(tactic| (k_here; refine halt ?_))
local macro_rules | `(tactic| walk_at "exec For Tuple Name cons nil") => `(tactic| (k_here; refine halt ?_))
local macro_rules | `(tactic| walk_at "exec For Tuple Call cons nil") => `(tactic| (k_here; refine halt ?_))
local macro_rules | `(tactic| walk_at "exec While") => `(tactic| (k_here; refine halt ?_))
local macro_rules | `(tactic| walk_at "call builtin:len") => `(tactic| (k_here; (with_reducible show wpAny _ _ (call (Value.builtin "len") [Value.ref _]) _ _ _); k_dflt (refine' KM.len_K ?N ?m ?s ?f ?_; (case N => k_asm); (case m => k_mem); (case s => first | assumption | exact (Array.size_push _).trans (congrArg Nat.succ (by assumption))); (case f => omega)); (try dsimp only)))
local macro_rules | `(tactic| walk_at "call type:range") => `(tactic| (k_here; k_dflt (refine' range_N ?F ?N ?_; (case F => k_asm); (case N => k_asm)); intro r' h' tk' t1' u1' v1' R' F' N'; (try dsimp only)))
local macro_rules | `(tactic| walk_at "binaryOp Pow int int") => `(tactic| (k_here; (with_reducible refine natPow ?a ?_; (case a => omega)); (try dsimp only)))
local macro_rules | `(tactic| walk_at "binaryOp FloorDiv int int") => `(tactic| (k_here; (with_reducible refine natDivPow ?a ?_; (case a => omega)); (try dsimp only)))
local macro_rules | `(tactic| walk_at "binaryOp Mod int int") => `(tactic| (k_here; (with_reducible refine natMod2 ?_); (try dsimp only)))
local macro_rules | `(tactic| walk_at "call builtin:set.add") => `(tactic| (k_here; (with_reducible show wpAny _ _ (call (Value.builtin "set.add") [Value.ref _, Value.int _ _]) _ _ _); k_dflt (refine' setAdd_N ?F ?N ?U ?s ?r ?k ?_; (case F => k_asm); (case N => k_asm); (case U => k_updF); (case s => assumption); (case r => omega); (case k => assumption)); intro h' o' ks' F' N' s' p'; (try dsimp only at N')))
local macro_rules | `(tactic| walk_at "eval ListComp") => `(tactic| (k_here; refine halt ?_))
local macro_rules | `(tactic| walk_at "exec Assign cons ListComp") => `(tactic| (k_here; refine halt ?_))
local macro_rules | `(tactic| walk_at "SrcLP") => `(tactic| (k_here; refine halt ?_))
local macro_rules | `(tactic| walk_at "CompSrc") => `(tactic| (k_here; refine halt ?_))
local macro_rules | `(tactic| walk_at "CompEnd") => `(tactic| (k_here; refine halt ?_))
local macro_rules | `(tactic| walk_at "binaryOp BitXor") => `(tactic| (k_here; (with_reducible show wpAny _ _ (binaryOp _ (Value.ref _) (Value.ref _)) _ _ _); k_dflt (refine' binop_K ?k1 ?k2 ?k3 ?k4 ?k5 ?k6 ?k7 ?_; (case k1 => k_asm); (case k2 => k_asm); (case k3 => k_inst); (case k4 => k_typeOf); (case k5 => k_is); (case k6 => k_is); (case k7 => k_is); k_whole)))
local macro_rules | `(tactic| walk_at "binaryOp BitXor int int") => `(tactic| (k_here; (with_reducible refine natXor ?_); (try dsimp only)))
local macro_rules | `(tactic| walk_at "subscriptTail") => `(tactic| (k_here; (with_reducible show wpAny _ _ (subscriptTail _ _ (Value.ref _) (Value.int _ _)) _ _ _); k_dflt (refine' itemL_N ?N ?m ?i ?x ?_; (case N => k_asm); (case m => k_mem); (case x => assumption); (case i => omega))))
local macro_rules | `(tactic| walk_at "binaryOp Add ref ref") => `(tactic| (k_here; (with_reducible show wpAny _ _ (binaryOp _ (Value.ref _) (Value.ref _)) _ _ _); k_dflt (refine' addL_N ?F ?N ?a ?b ?z ?_; (case F => k_asm); (case N => k_asm); (case a => k_mem); (case b => k_mem); (case z => first | assumption | omega)); intro D' h' F' N' l1; (try k_lt l1)))
local macro_rules | `(tactic| k_mem) => `(tactic| first | ktr_member | with_reducible assumption | exact List.mem_cons_self | ((with_reducible refine List.mem_cons_of_mem _ ?_); k_mem) | ((with_reducible refine List.mem_append_left _ ?_); k_mem) | ((with_reducible refine List.mem_append_right _ ?_); k_mem))
local macro_rules | `(tactic| walk_at "call builtin:list.append") => `(tactic| (k_here; (with_reducible show wpAny _ _ (call (Value.builtin _) [Value.ref _, _]) _ _ _); k_dflt (refine' append_K ?k1 ?k2 ?k3 ?_ ?z; (case k1 => k_asm); (case k2 => k_asm); (case k3 => first | k_upd | exact Upd.head (by assumption)); (case z => exact Nat.le_trans (m := 16384) (by omega) (by decide))); intro h' F' N'))
local macro_rules | `(tactic| walk_at "exec While Compare") => `(tactic| (k_here; refine halt ?_))
local macro_rules | `(tactic| walk_at "exec While BoolOp") => `(tactic| (k_here; refine halt ?_))
local macro_rules | `(tactic| walk_at "binaryOp LShift int int") => `(tactic| (k_here; (first | (with_reducible refine natShl33 ?a ?_; (case a => omega)) | (with_reducible refine natShl1 ?a ?_; (case a => omega)) | (with_reducible refine zeroShl1 ?_)); (try dsimp only)))
local macro_rules | `(tactic| walk_at "binaryOp BitOr int int") => `(tactic| (k_here; (first | with_reducible refine natOr ?_ | with_reducible refine natOr0 ?_); (try dsimp only)))
local macro_rules | `(tactic| walk_at "call builtin:list.extend") => `(tactic| (k_here; (with_reducible show wpAny _ _ (call (Value.builtin _) [Value.ref _, Value.ref _]) _ _ _); k_dflt (refine' extL_N ?F ?N ?b ?U ?z ?_; (case F => k_asm); (case N => k_asm); (case b => k_mem); (case U => k_updF); (case z => first | omega | (simp only [Array.size_push]; omega))); intro h' n' F' N'; (try dsimp only at N')))

/-- outer loop -/
def ewO (m₀ : Str → Option Value) (ca : Addr) (news : List (Addr × Obj)) (W : List Nat) (k : Nat) (m : Str → Option Value) (nw : List (Addr × Obj)) : Prop :=
  ∃ (i : Nat) (t : Tok) (cits : Array Value) (nn : Nat) (cw : List Nat), (∀ y, y ∉ [Str.ofString "i", Str.ofString "run_value", Str.ofString "run_length", Str.ofString "literals", Str.ofString "running_bit", Str.ofString "rlw"] → m y = m₀ y) ∧ m (Str.ofString "i") = some (.int (i : Nat) t) ∧
    nw = (ca, listOf cits nn) :: news ∧ IntsAre cits.toList (nats cw) ∧ Codes cw (W.take i) ∧ i + k = W.length ∧ cits.size = cw.length ∧ cw.length ≤ 2 * i ∧ ∀ c ∈ cw, c < 2 ^ 64

/-- the run -/
def ewR (m₀ : Str → Option Value) (base : List (Addr × Obj)) (W : List Nat) (i0 r : Nat) (m : Str → Option Value) (nw : List (Addr × Obj)) : Prop :=
  ∃ (ti tr : Tok), (∀ y, y ∉ [Str.ofString "i", Str.ofString "run_length"] → m y = m₀ y) ∧ m (Str.ofString "i") = some (.int ((i0 + r : Nat) : Int) ti) ∧ m (Str.ofString "run_length") = some (.int (r : Nat) tr) ∧ nw = base ∧ i0 + r ≤ W.length ∧ ∀ j, i0 ≤ j → j < i0 + r → W.getD j 0 = 0
def ewR1 (m₀ : Str → Option Value) (base : List (Addr × Obj)) (W : List Nat) (i0 n : Nat) (m : Str → Option Value) (nw : List (Addr × Obj)) : Prop := ∃ r, i0 + r + n = W.length ∧ ewR m₀ base W i0 r m nw
def ewRP (m₀ : Str → Option Value) (base : List (Addr × Obj)) (W : List Nat) (i0 : Nat) (m : Str → Option Value) (nw : List (Addr × Obj)) : Prop := ∃ r, 1 ≤ r ∧ ewR m₀ base W i0 r m nw
/-- the literals -/
def ewL (m₀ : Str → Option Value) (base : List (Addr × Obj)) (la : Addr) (W : List Nat) (i0 q : Nat) (m : Str → Option Value) (nw : List (Addr × Obj)) : Prop :=
  ∃ (ti : Tok) (lits : Array Value) (nn : Nat), (∀ y, y ∉ [Str.ofString "i"] → m y = m₀ y) ∧ m (Str.ofString "i") = some (.int ((i0 + q : Nat) : Int) ti) ∧ nw = (la, listOf lits nn) :: base ∧ i0 + q ≤ W.length ∧ lits.size = q ∧ IntsAre lits.toList (nats ((W.drop i0).take q))

def ewL1 (m₀ : Str → Option Value) (base : List (Addr × Obj)) (la : Addr) (W : List Nat) (i0 n : Nat) (m : Str → Option Value) (nw : List (Addr × Obj)) : Prop := ∃ q, i0 + q + n = W.length ∧ ewL m₀ base la W i0 q m nw
def ewLP (m₀ : Str → Option Value) (base : List (Addr × Obj)) (la : Addr) (W : List Nat) (i0 : Nat) (m : Str → Option Value) (nw : List (Addr × Obj)) : Prop := ∃ q, (1 ≤ q ∨ (W.length ≤ i0 ∨ W.getD i0 0 = 0)) ∧ ewL m₀ base la W i0 q m nw
set_option maxRecDepth 100000 in
set_option maxHeartbeats 800000 in
theorem ew_c : ∀ (w : World) (wa : Addr) (its : Array Value) (n0 : Nat) (W : List Nat), IntsAre its.toList (nats W) → W.length ≤ 7 → (∀ x ∈ W, x < 18446744073709551615) →
    Calls w 20 300 107 [.ref wa] (fun news => (wa, listOf its n0) ∈ news)
      (fun news news' r => ∃ ca cits nn cw, r = .ref ca ∧ news' = (ca, listOf cits nn) :: news ∧ (∀ p ∈ news, p.1 < ca) ∧ IntsAre cits.toList (nats cw) ∧ Codes cw W ∧ cw.length ≤ 14 ∧ ∀ c ∈ cw, c < 2 ^ 64) := by
  unfold Calls
  k_fill
  intro w wa its n0 W hits hlen hW mean mg mb dp un gd cn cs a ccd cl outer A₀ base h₀ L m news s Q E B F X N T hk hdp hun hwa ret
  have hsz : its.size = W.length := by rw [← Array.length_toList, hits.length, List.length_map]
  refine wpAny_call ?_
  k_dflt ktr_enter
  k_steps
  unfold Halt
  rename_i l5 _ lt5 _ _ F5 N5
  refine noraise (While_inv (news := (l5, listOf #[] 0) :: news) (ewO _ l5 news W) (n₀ := W.length) F5 N5 ⟨0, _, #[], 0, [], fun _ _ => rfl, rfl, rfl, .nil, by simpa using Codes.nil, by omega, rfl, by simp, fun _ h => nomatch h⟩ ?turn (fun _ _ h => h.elim))
  case turn =>
    rintro n m₁ nw h₁ tk₁ F₁ N₁ ⟨i, ti, cits, nn, cw, hm, hmi, rfl, hcI, hcC, hk9, hcs, hcl, hcb⟩
    have F₂ := Fr.ov F₁ hm
    dsimp only [ov] at F₂
    rw [hmi] at F₂
    clear F₁ 
    have hWi : ∀ j : Nat, j < W.length → (nats W).getD j 0 = (W.getD j 0 : Nat) ∧ W.getD j 0 < 18446744073709551615 := by
      intro j hj
      simp only [nats, List.getD_eq_getElem?_getD, List.getElem?_map, List.getElem?_eq_getElem hj, Option.map_some, Option.getD_some]
      exact ⟨trivial, hW _ (List.getElem_mem hj)⟩
    have hWi' := hWi i
    k_steps
    · unfold Halt
      rename (nats W).getD _ _ = 0 => a0
      rename ((i : Nat) : Int) < _ => ai
      rename_i F5 N5
      have ai' : i < W.length := by omega
      rw [Int.toNat_natCast, (hWi' ai').1] at a0
      refine' While_J (ewR1 ?m0 ?b0 W i) (ewRP ?m0 ?b0 W i) (W.length - i) F5 N5 ⟨0, by omega, _, _, fun _ _ => rfl, by exact (if_neg (by decide)).trans ((if_neg (by decide)).trans (if_pos rfl)), by exact if_pos rfl, rfl, by omega, fun j h1 h2 => by omega⟩ ?turn1 ?done1
      case turn1 =>
        rintro n2 m₂ nw h2 tk2 F6 N6 ⟨r, hn, t6, t7, hm2, hmi2, hmr, rfl, hle, hz⟩
        have F7 := Fr.ov F6 hm2
        dsimp only [ov] at F7
        rw [hmi2, hmr] at F7
        clear F6
        have hWr := hWi (i + r)
        have hWi0 := hWi i ai'
        k_steps
        · rename (nats W).getD (((i + r : Nat) : Int)).toNat 0 = _ => a2
          rename (((i + r : Nat) : Int)) < _ => a3
          rw [Int.toNat_natCast, Int.toNat_natCast, (hWr (by omega)).1, hWi0.1, a0] at a2
          refine WhileStep.intro (n' := n2 - 1) (by k_asm) (by k_asm) (by omega) ⟨r + 1, by omega, _, _, ?_, rfl, rfl, rfl, by omega, ?_⟩
          · intro y hy
            simp only [List.mem_cons, List.not_mem_nil, or_false, not_or] at hy
            simp only [if_neg hy.1, if_neg hy.2]
          · intro j h1 h2
            by_cases e : j = i + r
            · subst e; omega
            · exact hz j h1 (by omega)
        · rename (nats W).getD (((i + r : Nat) : Int)).toNat 0 ≠ _ => a2
          refine WhileOut.intro (by k_asm) (by k_asm) ⟨r, ?_, _, _, ?_, rfl, rfl, rfl, by omega, hz⟩
          · rcases Nat.eq_zero_or_pos r with rfl | h
            · exact absurd rfl a2
            · exact h
          · intro y hy
            simp only [List.mem_cons, List.not_mem_nil, or_false, not_or] at hy
            simp only [if_neg hy.1, if_neg hy.2]
        · rename ¬ (((i + r : Nat) : Int)) < _ => a3
          refine WhileOut.intro (by k_asm) (by k_asm) ⟨r, by omega, _, _, ?_, rfl, rfl, rfl, by omega, hz⟩
          intro y hy
          simp only [List.mem_cons, List.not_mem_nil, or_false, not_or] at hy
          simp only [if_neg hy.1, if_neg hy.2]
      case done1 =>
        rintro m₂ nw h2 tk2 ⟨r, hr1, t6, t7, hm2, hmi2, hmr, rfl, hle, hz⟩ F6 N6
        have F7 := Fr.ov F6 hm2
        dsimp only [ov] at F7
        rw [hmi2, hmr] at F7
        clear F6
        k_steps
        unfold Halt
        rename_i F8 N8
        refine' While_J (ewL1 ?m1 ?b1 ?la1 W (i + r)) (ewLP ?m1 ?b1 ?la1 W (i + r)) (W.length - (i + r)) F8 N8 ⟨0, by omega, _, #[], 0, fun _ _ => rfl, rfl, rfl, by omega, rfl, by simpa using IntsAre.nil⟩ ?turn2 ?done2
        case turn2 =>
          rintro n3 m₃ nw h3 tk3 F9 N9 ⟨q, hn3, t8, lits, nl, hm3, hmi3, rfl, hle3, hls, hlI⟩
          have F10 := Fr.ov F9 hm3
          dsimp only [ov] at F10
          rw [hmi3] at F10
          clear F9
          have hWq := hWi (i + r + q)
          k_steps
          · rename_i F11 N11
            refine WhileStep.intro (n' := n3 - 1) (by k_asm) (by k_asm) (by omega) ⟨q + 1, by omega, _, _, _, ?_, rfl, rfl, by omega, by rw [Array.size_push, hls], ?_⟩
            · intro y hy
              simp only [List.mem_cons, List.not_mem_nil, or_false, not_or] at hy
              simp only [if_neg hy]
            · rename (((i + r + q : Nat) : Int)) < _ => a3
              rw [getD_take_succ (by omega), nats_app, Array.toList_push]
              exact IntsAre.snocE hlI (by rw [Int.toNat_natCast]; exact (hWq (by omega)).1)
          · rename (((i + r + q : Nat) : Int)) < _ => a3
            rename (nats W).getD (((i + r + q : Nat) : Int)).toNat 0 = 18446744073709551615 => a2
            rw [Int.toNat_natCast] at a2
            have := hWq (by omega)
            omega
          · rename (((i + r + q : Nat) : Int)) < _ => a3
            rename (nats W).getD (((i + r + q : Nat) : Int)).toNat 0 = 0 => a2
            rw [Int.toNat_natCast] at a2
            refine WhileOut.intro (by k_asm) (by k_asm) ⟨q, ?_, _, _, _, ?_, rfl, rfl, by omega, hls, hlI⟩
            · rcases Nat.eq_zero_or_pos q with h | h
              · subst h
                have := (hWq (by omega)).1
                have a4 : (nats W).getD (i + r + 0) 0 = 0 := a2
                rw [this] at a4
                exact .inr (.inr (by simpa using a4))
              · exact .inl h
            · intro y hy
              simp only [List.mem_cons, List.not_mem_nil, or_false, not_or] at hy
              simp only [if_neg hy]
          · rename ¬ (((i + r + q : Nat) : Int)) < _ => a3
            refine WhileOut.intro (by k_asm) (by k_asm) ⟨q, by omega, _, _, _, ?_, rfl, rfl, by omega, hls, hlI⟩
            intro y hy
            simp only [List.mem_cons, List.not_mem_nil, or_false, not_or] at hy
            simp only [if_neg hy]
        case done2 =>
          rintro m₃ nw h3 tk3 ⟨q, hq1, t8, lits, nl, hm3, hmi3, rfl, hle3, hls, hlI⟩ F9 N9
          have F10 := Fr.ov F9 hm3
          dsimp only [ov] at F10
          rw [hmi3] at F10
          clear F9
          k_steps
          · rename (nats W).getD ((i : Nat) : Int).toNat 0 = 18446744073709551615 => a4
            rw [Int.toNat_natCast, (hWi' ai').1] at a4
            omega
          · have fin := fun t => ewO_next (t := t) hle3 (by omega) hz hcI hcC hcs hcl hcb hlen hW hls hlI (or_sum (q := q) (r := r) (by omega))
            refine WhileStep.intro (n' := n - (r + q)) (by k_asm) (News.sub' (by k_asm) fun p hp => List.mem_cons_of_mem _ hp) (by omega) ⟨i + r + q, _, _, _, _, ?_, rfl, rfl, (fin _).1, (fin 0).2.1, by omega, (fin _).2.2.1, (fin 0).2.2.2.1, (fin 0).2.2.2.2⟩
            intro y hy
            simp only [List.mem_cons, List.not_mem_nil, or_false, not_or] at hy
            simp only [if_neg hy.1, if_neg hy.2.1, if_neg hy.2.2.1, if_neg hy.2.2.2.1, if_neg hy.2.2.2.2.1, if_neg hy.2.2.2.2.2]
    · exfalso
      rename (nats W).getD _ _ = 18446744073709551615 => a0
      rename ((i : Nat) : Int) < _ => ai
      rw [Int.toNat_natCast] at a0
      have := hWi' (by omega)
      omega
    · unfold Halt
      rename (nats W).getD _ _ ≠ 18446744073709551615 => a1
      rename (nats W).getD _ _ ≠ 0 => a0
      rename ((i : Nat) : Int) < _ => ai
      rename_i F8 N8
      have ai' : i < W.length := by omega
      rw [Int.toNat_natCast, (hWi' ai').1] at a0
      refine' While_J (ewL1 ?m3 ?b3 ?la3 W i) (ewLP ?m3 ?b3 ?la3 W i) (W.length - i) F8 N8 ⟨0, by omega, _, #[], 0, fun _ _ => rfl, rfl, rfl, by omega, rfl, by simpa using IntsAre.nil⟩ ?turn3 ?done3
      case turn3 =>
        rintro n3 m₃ nw h3 tk3 F9 N9 ⟨q, hn3, t8, lits, nl, hm3, hmi3, rfl, hle3, hls, hlI⟩
        have F10 := Fr.ov F9 hm3
        dsimp only [ov] at F10
        rw [hmi3] at F10
        clear F9
        have hWq := hWi (i + q)
        k_steps
        · rename_i F11 N11
          refine WhileStep.intro (n' := n3 - 1) (by k_asm) (by k_asm) (by omega) ⟨q + 1, by omega, _, _, _, ?_, rfl, rfl, by omega, by rw [Array.size_push, hls], ?_⟩
          · intro y hy
            simp only [List.mem_cons, List.not_mem_nil, or_false, not_or] at hy
            simp only [if_neg hy]
          · rename (((i + q : Nat) : Int)) < _ => a3
            rw [getD_take_succ (by omega), nats_app, Array.toList_push]
            exact IntsAre.snocE hlI (by rw [Int.toNat_natCast]; exact (hWq (by omega)).1)
        · rename (((i + q : Nat) : Int)) < _ => a3
          rename (nats W).getD (((i + q : Nat) : Int)).toNat 0 = 18446744073709551615 => a2
          rw [Int.toNat_natCast] at a2
          have := hWq (by omega)
          omega
        · rename (((i + q : Nat) : Int)) < _ => a3
          rename (nats W).getD (((i + q : Nat) : Int)).toNat 0 = 0 => a2
          rw [Int.toNat_natCast] at a2
          refine WhileOut.intro (by k_asm) (by k_asm) ⟨q, ?_, _, _, _, ?_, rfl, rfl, by omega, hls, hlI⟩
          · rcases Nat.eq_zero_or_pos q with h | h
            · subst h
              have := (hWq (by omega)).1
              have a4 : (nats W).getD (i + 0) 0 = 0 := a2
              rw [this] at a4
              exact .inr (.inr (by simpa using a4))
            · exact .inl h
          · intro y hy
            simp only [List.mem_cons, List.not_mem_nil, or_false, not_or] at hy
            simp only [if_neg hy]
        · rename ¬ (((i + q : Nat) : Int)) < _ => a3
          refine WhileOut.intro (by k_asm) (by k_asm) ⟨q, by omega, _, _, _, ?_, rfl, rfl, by omega, hls, hlI⟩
          intro y hy
          simp only [List.mem_cons, List.not_mem_nil, or_false, not_or] at hy
          simp only [if_neg hy]
      case done3 =>
        rintro m₃ nw h3 tk3 ⟨q, hq1, t8, lits, nl, hm3, hmi3, rfl, hle3, hls, hlI⟩ F9 N9
        have F10 := Fr.ov F9 hm3
        dsimp only [ov] at F10
        rw [hmi3] at F10
        clear F9
        k_steps
        have fin := fun t => ewO_next (t := t) (r := 0) hle3 (by omega) (fun j h1 h2 => by omega) hcI hcC hcs hcl hcb hlen hW hls hlI (X := q * 2 ^ 33) (by omega)
        refine WhileStep.intro (n' := n - q) (by k_asm) (News.sub' (by k_asm) fun p hp => List.mem_cons_of_mem _ hp) (by omega) ⟨i + q, _, _, _, _, ?_, rfl, rfl, (fin _).1, (fin 0).2.1, by omega, (fin _).2.2.1, (fin 0).2.2.2.1, (fin 0).2.2.2.2⟩
        intro y hy
        simp only [List.mem_cons, List.not_mem_nil, or_false, not_or] at hy
        simp only [if_neg hy.1, if_neg hy.2.1, if_neg hy.2.2.1, if_neg hy.2.2.2.1, if_neg hy.2.2.2.2.1, if_neg hy.2.2.2.2.2]
    · have : W.take i = W := by rw [List.take_of_length_le]; omega
      exact ret _ _ _ _ (by k_asm) (by k_asm) ⟨l5, cits, nn, cw, rfl, rfl, lt5, hcI, this ▸ hcC, by omega, hcb⟩
end Mine
end
section
open PySem PySem.W PyProof.Rows
namespace Mine
local macro_rules | `(tactic| walk_at "pad 0") => `(tactic| skip)
local macro_rules | `(tactic| walk_at "pad 1") => `(tactic| skip)
local macro_rules | `(tactic| walk_at "pad 2") => `(tactic| skip)
local macro_rules | `(tactic| walk_at "pad 3") => `(tactic| skip)
local macro_rules | `(tactic| walk_at "pad 4") => `(tactic| skip)
local macro_rules | `(tactic| walk_at "pad 5") => `(tactic| skip)
local macro_rules | `(tactic| walk_at "pad 6") => `(tactic| skip)
local macro_rules | `(tactic| walk_at "pad 7") => `(tactic| skip)
local macro_rules | `(tactic| walk_at "pad 8") => `(tactic| skip)
local macro_rules | `(tactic| walk_at "pad 9") => `(tactic| skip)
local macro_rules | `(tactic| walk_at "pad 10") => `(tactic| skip)
local macro_rules | `(tactic| walk_at "pad 11") => `(tactic| skip)
local macro_rules | `(tactic| walk_at "pad 12") => `(tactic| skip)
local macro_rules | `(tactic| walk_at "pad 13") => `(tactic| skip)
local macro_rules | `(tactic| walk_at "pad 14") => `(tactic| skip)
local macro_rules | `(tactic| walk_at "pad 15") => `(tactic| skip)
local macro_rules | `(tactic| walk_at "pad 16") => `(tactic| skip)
local macro_rules | `(tactic| walk_at "pad 17") => `(tactic| skip)
local macro_rules | `(tactic| walk_at "pad 18") => `(tactic| skip)
local macro_rules | `(tactic| walk_at "pad 19") => `(tactic| skip)
local macro_rules | `(tactic| walk_at "pad 20") => `(tactic| skip)
local macro_rules | `(tactic| walk_at "pad 21") => `(tactic| skip)
local macro_rules | `(tactic| walk_at "pad 22") => `(tactic| skip)
local macro_rules | `(tactic| walk_at "pad 23") => `(tactic| skip)
local macro_rules | `(tactic| walk_at "pad 24") => `(tactic| skip)
local macro_rules | `(tactic| walk_at "pad 25") => `(tactic| skip)
local macro_rules | `(tactic| k_room) => `(tactic| ktr_room)
local macro_rules | `(tactic| k_units) => `(tactic| ktr_units)
local macro_rules | `(tactic| walk_at "call type:set nil nil") => `(tactic| (k_here; k_dflt (refine setNew_N (by k_asm) (by k_asm) ?_); intro d' h' so' F' N' l1 hs'; (try k_lt l1)))
local macro_rules | `(tactic| walk_at "getMethod ref") => `(tactic| (k_here; (with_reducible show wpAny _ _ (getMethod (Value.ref _) (Str.ofString "add") _) _ _ _); k_dflt (refine' setMeth_N ?N ?a ?s ?_; (case N => k_asm); (case a => k_mem); (case s => assumption))))
local macro_rules | `(tactic| walk_at "call builtin:len") => `(tactic| (k_here; (with_reducible show wpAny _ _ (call (Value.builtin "len") [Value.ref _]) _ _ _); k_dflt (refine' setLen_N ?N ?a ?s ?_; (case N => k_asm); (case a => k_mem); (case s => assumption)); (try dsimp only)))
local macro_rules | `(tactic| walk_at "exec For") => `(tactic| (k_here; refine halt ?_))
local macro_rules | `(tactic| walk_at "exec For Name Call cons nil") => `(tactic| (k_here; refine halt ?_))
local macro_rules | `(tactic| walk_at "exec For Name Name cons nil") => `(tactic| (k_here; refine halt ?_))
local macro_rules | `(tactic| walk_at "exec For Name Attribute cons nil") => `(tactic| (k_here; refine halt ?_))
local macro_rules | `(tactic| walk_at "exec For Tuple Name cons nil") => `(tactic| (k_here; refine halt ?_))
local macro_rules | `(tactic| walk_at "exec For Tuple Call cons nil") => `(tactic| (k_here; refine halt ?_))
local macro_rules | `(tactic| walk_at "exec While") => `(tactic| (k_here; refine halt ?_))
local macro_rules | `(tactic| walk_at "call builtin:len") => `(tactic| (k_here; (with_reducible show wpAny _ _ (call (Value.builtin "len") [Value.ref _]) _ _ _); k_dflt (refine' KM.len_K ?N ?m ?s ?f ?_; (case N => k_asm); (case m => k_mem); (case s => first | assumption | exact (Array.size_push _).trans (congrArg Nat.succ (by assumption))); (case f => omega)); (try dsimp only)))
local macro_rules | `(tactic| walk_at "call type:range") => `(tactic| (k_here; k_dflt (refine' range_N ?F ?N ?_; (case F => k_asm); (case N => k_asm)); intro r' h' tk' t1' u1' v1' R' F' N'; (try dsimp only)))
local macro_rules | `(tactic| walk_at "binaryOp Pow int int") => `(tactic| (k_here; (with_reducible refine natPow ?a ?_; (case a => omega)); (try dsimp only)))
local macro_rules | `(tactic| walk_at "binaryOp FloorDiv int int") => `(tactic| (k_here; (with_reducible refine natDivPow ?a ?_; (case a => omega)); (try dsimp only)))
local macro_rules | `(tactic| walk_at "binaryOp Mod int int") => `(tactic| (k_here; (with_reducible refine natMod2 ?_); (try dsimp only)))
local macro_rules | `(tactic| walk_at "call builtin:set.add") => `(tactic| (k_here; (with_reducible show wpAny _ _ (call (Value.builtin "set.add") [Value.ref _, Value.int _ _]) _ _ _); k_dflt (refine' setAdd_N ?F ?N ?U ?s ?r ?k ?_; (case F => k_asm); (case N => k_asm); (case U => k_updF); (case s => assumption); (case r => omega); (case k => assumption)); intro h' o' ks' F' N' s' p'; (try dsimp only at N')))
local macro_rules | `(tactic| walk_at "eval ListComp") => `(tactic| (k_here; refine halt ?_))
local macro_rules | `(tactic| walk_at "exec Assign cons ListComp") => `(tactic| (k_here; refine halt ?_))
local macro_rules | `(tactic| walk_at "SrcLP") => `(tactic| (k_here; refine halt ?_))
local macro_rules | `(tactic| walk_at "CompSrc") => `(tactic| (k_here; refine halt ?_))
local macro_rules | `(tactic| walk_at "CompEnd") => `(tactic| (k_here; refine halt ?_))
local macro_rules | `(tactic| walk_at "binaryOp BitXor") => `(tactic| (k_here; (with_reducible show wpAny _ _ (binaryOp _ (Value.ref _) (Value.ref _)) _ _ _); k_dflt (refine' binop_K ?k1 ?k2 ?k3 ?k4 ?k5 ?k6 ?k7 ?_; (case k1 => k_asm); (case k2 => k_asm); (case k3 => k_inst); (case k4 => k_typeOf); (case k5 => k_is); (case k6 => k_is); (case k7 => k_is); k_whole)))
local macro_rules | `(tactic| walk_at "binaryOp BitXor int int") => `(tactic| (k_here; (with_reducible refine natXor ?_); (try dsimp only)))
local macro_rules | `(tactic| walk_at "subscriptTail") => `(tactic| (k_here; (with_reducible show wpAny _ _ (subscriptTail _ _ (Value.ref _) (Value.int _ _)) _ _ _); k_dflt (refine' itemL_N ?N ?m ?i ?x ?_; (case N => k_asm); (case m => k_mem); (case x => assumption); (case i => omega))))
local macro_rules | `(tactic| walk_at "binaryOp Add ref ref") => `(tactic| (k_here; (with_reducible show wpAny _ _ (binaryOp _ (Value.ref _) (Value.ref _)) _ _ _); k_dflt (refine' addL_N ?F ?N ?a ?b ?z ?_; (case F => k_asm); (case N => k_asm); (case a => k_mem); (case b => k_mem); (case z => first | assumption | omega)); intro D' h' F' N' l1; (try k_lt l1)))
local macro_rules | `(tactic| k_mem) => `(tactic| first | ktr_member | with_reducible assumption | exact List.mem_cons_self | ((with_reducible refine List.mem_cons_of_mem _ ?_); k_mem) | ((with_reducible refine List.mem_append_left _ ?_); k_mem) | ((with_reducible refine List.mem_append_right _ ?_); k_mem))
local macro_rules | `(tactic| walk_at "call builtin:list.append") => `(tactic| (k_here; (with_reducible show wpAny _ _ (call (Value.builtin _) [Value.ref _, _]) _ _ _); k_dflt (refine' append_K ?k1 ?k2 ?k3 ?_ ?z; (case k1 => k_asm); (case k2 => k_asm); (case k3 => first | k_upd | exact Upd.head (by assumption)); (case z => exact Nat.le_trans (m := 16384) (by omega) (by decide))); intro h' F' N'))
local macro_rules | `(tactic| walk_at "exec While Compare") => `(tactic| (k_here; refine halt ?_))
local macro_rules | `(tactic| walk_at "exec While BoolOp") => `(tactic| (k_here; refine halt ?_))
local macro_rules | `(tactic| walk_at "binaryOp LShift int int") => `(tactic| (k_here; (first | (with_reducible refine natShl33 ?a ?_; (case a => omega)) | (with_reducible refine natShl1 ?a ?_; (case a => omega)) | (with_reducible refine zeroShl1 ?_)); (try dsimp only)))
local macro_rules | `(tactic| walk_at "binaryOp BitOr int int") => `(tactic| (k_here; (first | with_reducible refine natOr ?_ | with_reducible refine natOr0 ?_); (try dsimp only)))
local macro_rules | `(tactic| walk_at "call builtin:list.extend") => `(tactic| (k_here; (with_reducible show wpAny _ _ (call (Value.builtin _) [Value.ref _, Value.ref _]) _ _ _); k_dflt (refine' extL_N ?F ?N ?b ?U ?z ?_; (case F => k_asm); (case N => k_asm); (case b => k_mem); (case U => k_updF); (case z => first | omega | (simp only [Array.size_push]; omega))); intro h' n' F' N'; (try dsimp only at N')))

theorem packI0 {prog : Program} {w : World} {A : Around} {E : Value → Shared → Prop} {s : Shared} {t u : Tok} {Q : Value → Shared → Prop} (hQ : Q (.bytes (beBytes 4 0) s.toks) { s with toks := s.toks + 1 }) :
    wpAny (model prog w) A (call (.builtin "_struct.pack") [.str (Str.ofString ">I") t, .int 0 u]) Q E s := packI_rule (n := 0) (by decide) hQ
abbrev bioD (P : Params) (bs : Array UInt8) (t1 t2 : Tok) : Obj := dictOf [⟨PyData.keyHash P (Str.ofString "data"), .str (Str.ofString "data") t1, .bytes bs t2⟩] 1
abbrev flat8 (l : List Nat) : Array UInt8 := (l.flatMap fun c => (beBytes 8 c).toList).toArray
theorem flat8_size : ∀ l : List Nat, (flat8 l).size = 8 * l.length
  | [] => rfl
  | c :: l => by
    have := flat8_size l
    rw [flat8, List.size_toArray] at this ⊢
    rw [List.flatMap_cons, List.length_append, this, Array.length_toList, beBytes_size, List.length_cons]
    omega
theorem flat8_snoc (l : List Nat) (c : Nat) : flat8 (l ++ [c]) = flat8 l ++ beBytes 8 c := by
  apply Array.toList_inj.mp
  simp [flat8]
local macro_rules | `(tactic| walk_at "truthy ref") => `(tactic| (k_here; (with_reducible show wpAny _ _ (truthy (Value.ref _)) _ _ _); k_dflt (refine' setTruthy_N ?N ?a ?s ?_; (case N => k_asm); (case a => k_mem); (case s => assumption)); (try dsimp only)))
local macro_rules | `(tactic| walk_at "call builtin:max") => `(tactic| (k_here; (with_reducible show wpAny _ _ (call (Value.builtin "max") [Value.ref _]) _ _ _); refine halt ?_))
local macro_rules | `(tactic| walk_at "call builtin:_struct.pack") => `(tactic| (k_here; (first | (with_reducible refine packIII_rule ?_) | (with_reducible refine packI0 ?_) | (with_reducible refine packI_rule ?h ?_; (case h => omega)) | (with_reducible refine packQ_rule ?h ?_; (case h => first | assumption | omega)))))
local macro_rules | `(tactic| walk_at "inplaceOp Add bytes bytes") => `(tactic| (k_here; (with_reducible refine iadd_bytes ?z ?_); (case z => first | (simp only [Array.size_append, beBytes_size, List.size_toArray, List.length_nil]; omega) | (simp [beBytes_size]; done)); intro t9' k9'))

local macro_rules | `(tactic| walk_at "binaryOp Add int int") => `(tactic| (k_here; (first | with_reducible refine natAdd1 ?_ | with_reducible refine natAdd63 ?_); (try dsimp only)))
local macro_rules | `(tactic| walk_at "binaryOp FloorDiv int int") => `(tactic| (k_here; (with_reducible refine natDiv64 ?_); (try dsimp only)))
local macro_rules | `(tactic| walk_at "binaryOp Mod int int") => `(tactic| (k_here; (with_reducible refine natMod64 ?_); (try dsimp only)))
local macro_rules | `(tactic| walk_at "binaryOp LShift int int") => `(tactic| (k_here; (with_reducible refine natShlOne ?a ?_; (case a => omega)); (try dsimp only)))
local macro_rules | `(tactic| walk_at "inplaceOp BitOr int int") => `(tactic| (k_here; (with_reducible refine natIor ?_); (try dsimp only)))
local macro_rules | `(tactic| walk_at "binaryOp Mult ref int") => `(tactic| (k_here; (with_reducible show wpAny _ _ (binaryOp Operator.Mult (Value.ref _) (Value.int _ _)) _ _ _); k_dflt (refine' mulZ_N ?F ?N ?m ?k ?_; (case F => k_asm); (case N => k_asm); (case m => k_mem); (case k => omega)); intro D' its' h' F' N' l1 hI'; (try k_lt l1)))
local macro_rules | `(tactic| walk_at "getItem ref int") => `(tactic| (k_here; (with_reducible show wpAny _ _ (getItem (Value.ref _) (Value.int _ _)) _ _ _); k_dflt (refine' getW_N ?N ?m ?I ?i ?f ?_; (case N => k_asm); (case m => k_mem); (case I => assumption); (case i => omega); (case f => omega)); intro t'))
local macro_rules | `(tactic| walk_at "setItem ref int") => `(tactic| (k_here; (with_reducible show wpAny _ _ (setItem (Value.ref _) (Value.int _ _) (Value.int _ _)) _ _ _); k_dflt (refine' setW_N ?F ?N ?U ?I ?i ?f ?_; (case F => k_asm); (case N => k_asm); (case U => k_updF); (case I => assumption); (case i => omega); (case f => omega)); intro h' its' F' N' I'; (try dsimp only at N')))
theorem arr_zero : (Array.replicate 12 (0 : UInt8)).size = 12 := by simp
/-- the bytes of a set -/
def Enc (bs : Array UInt8) (S : List Int) : Prop :=
  (S = [] ∧ bs = Array.replicate 12 0) ∨ ∃ (bc : Nat) (cw W : List Nat), bs = beBytes 4 bc ++ beBytes 4 cw.length ++ flat8 cw ++ beBytes 4 0 ∧ Codes cw W ∧ cw.length ≤ 14 ∧ (bc + 63) / 64 = W.length ∧ W.length ≤ 7 ∧ (∀ c ∈ cw, c < 2 ^ 64) ∧
    ∀ z : Int, z ∈ S ↔ ∃ i j : Nat, j < 64 ∧ z = ((64 * i + j : Nat) : Int) ∧ (W.getD i 0).testBit j = true

def feJ (P : Params) (m₀ : Str → Option Value) (f df : Addr) (t1 : Tok) (bs0 : Array UInt8) (cw : List Nat) (base : List (Addr × Obj)) (i : Nat) (m : Str → Option Value) (nw : List (Addr × Obj)) : Prop :=
  (∀ y, y ∉ [Str.ofString "word"] → m y = m₀ y) ∧ ∃ bs t2, nw = (f, instObj 96 df) :: (df, bioD P bs t1 t2) :: base ∧ bs = bs0 ++ flat8 (cw.take i)
def enJ (m₀ : Str → Option Value) (l : Addr) (news : List (Addr × Obj)) (wc : Nat) (ord : List Int) (i : Nat) (m : Str → Option Value) (nw : List (Addr × Obj)) : Prop :=
  (∀ y, y ∉ [Str.ofString "bit", Str.ofString "word_idx", Str.ofString "bit_idx"] → m y = m₀ y) ∧ ∃ (its : Array Value) (nn : Nat) (W : List Nat), nw = (l, listOf its nn) :: news ∧ IntsAre its.toList (nats W) ∧ W.length = wc ∧ BitsAre W (ord.take i)
theorem News.dropSnd {h₀ h : Heap} {L : Addr} {p1 p2 : Addr × Obj} {l : List (Addr × Obj)} (N : News h₀ L h (p1 :: p2 :: l)) : News h₀ L h (p1 :: l) :=
  News.sub' N fun p hp => by simp only [List.mem_cons] at hp ⊢; rcases hp with h | h <;> simp [h]
local macro_rules | `(tactic| walk_at "call ref") => `(tactic| (k_here; (with_reducible show wpAny _ _ (call (Value.ref 107) _) _ _ _); refine halt ?_))
set_option maxRecDepth 100000 in
set_option maxHeartbeats 800000 in
theorem en_c : ∀ (w : World) (x b : Addr) (S : List Int), S.length ≤ 6 → (∀ z ∈ S, ∃ n : Nat, z = n ∧ n < 448) →
    Calls w 40 600 136 [.ref x] (fun news => BM w news (.ref x) b S) (fun news news' r => news' = news ∧ ∃ bs t, r = .bytes bs t ∧ Enc bs S) := by
  unfold Calls
  k_fill
  intro w x bx S hl hS mean mg mb dp un gd cn cs a ccd cl outer A₀ base h₀ L m news s Q E B F X N T hk hdp hun h1 ret
  obtain ⟨x, dx, c, t1, t2, t3, so, ks, e1, hx, hdx, hbx, hsx, hm1⟩ := h1
  cases e1
  have hkl := len_le hsx.nodup hm1
  cases ks with
  | nil =>
    refine wpAny_call ?_
    k_dflt ktr_enter
    k_steps
    exact ret _ _ _ _ (by k_asm) (by k_asm) ⟨rfl, _, _, rfl, .inl ⟨List.eq_nil_iff_forall_not_mem.mpr fun z hz => (nomatch (hm1 z).2 hz), rfl⟩⟩
  | cons k0 ks0 =>
    refine wpAny_call ?_
    k_dflt ktr_enter
    k_steps
    · rename List.isEmpty _ = true => a0
      cases a0
    · unfold Halt
      k_dflt (refine' setMax_N rfl ?F0 ?N0 ?a0 hsx ?ne0 ?_)
      case F0 => k_asm
      case N0 => k_asm
      case a0 => k_mem
      case ne0 => exact List.cons_ne_nil _ _
      intro M t9 h9 tk9 hM hMx F9 N9
      obtain ⟨Mn, rfl, hMn⟩ := hS M ((hm1 M).1 hM)
      k_steps
      unfold Halt
      refine For_setF (by k_asm) ?_
      k_steps
      unfold Halt
      rename IntsAre _ (nats (List.replicate _ 0)) => hI0
      refine' ⟨bx, so, k0 :: ks0, _, (?l5, listOf ?its5 0) :: news, rfl, rfl, ?F1, News.dropSnd ?N1, ?mem1, hsx, ?rest⟩
      case F1 => k_asm
      case N1 => k_asm
      case mem1 => exact List.mem_cons_of_mem _ hbx
      intro ord hp
      refine' ⟨enJ _ _ news ((Mn + 1 + 63) / 64) ord, ⟨fun _ _ => rfl, _, _, _, rfl, hI0, List.length_replicate, bits_zero _⟩, ?hmem, ?turn, ?done⟩
      case hmem => rintro i m nw ⟨_, its, nn, W, rfl, _⟩; exact List.mem_cons_of_mem _ hbx
      case turn =>
        rintro i k tk' I m₁ nw oI h tk hk ⟨hm, its, nn, W, rfl, hI, hWl, hB⟩ F₁ N₁ off₁
        have hkm : k ∈ k0 :: ks0 := hp.mem_iff.mp (List.mem_of_getElem? hk)
        obtain ⟨z, rfl, hz⟩ := hS k ((hm1 k).1 hkm)
        have hzM := hMx _ hkm
        have off := neN (off₁ _ List.mem_cons_self)
        have F₂ := Fr.ov F₁ hm
        dsimp only [ov] at F₂
        clear F₁
        k_dflt (refine wpAny_assign_Name (storeX_L F₂ N₁ ?_))
        intro h' F' N'
        k_steps
        refine' ForEnd.next ?F3 ?N3 ?sub3 ?off3 ?J3
        case F3 => k_asm
        case N3 => k_asm
        case sub3 => exact fun _ h => h
        case off3 => exact List.forall_mem_cons.mpr ⟨off, fun p hp => off₁ p (List.mem_cons_of_mem _ hp)⟩
        case J3 =>
          refine ⟨?_, _, _, _, rfl, by assumption, by rw [List.length_set, hWl], ?_⟩
          · intro y hy
            simp only [List.mem_cons, List.not_mem_nil, or_false, not_or] at hy
            simp only [if_neg hy.1, if_neg hy.2.1, if_neg hy.2.2]
          · rw [List.take_add_one, hk]
            exact bits_set hB (by omega)
      case done =>
        rintro m' nw h tk ⟨hm, its, nn, W, rfl, hI, hWl, hB⟩ F₁ N₁
        have F₂ := Fr.ov F₁ hm
        dsimp only [ov] at F₂
        clear F₁
        have hordl : ord.length ≤ 6 := by rw [hp.length_eq]; omega
        rw [List.take_length] at hB
        k_steps
        unfold Halt
        k_dflt (refine' Calls.use (ew_c w _ its nn W hI ?hw7 (bits_lt hB hordl)) ?B9 ?F9 ?X9 ?N9 ?T9 rfl ?dp9 ?un9 ?pre9 ?_)
        case hw7 => omega
        case B9 => k_asm
        case F9 => k_asm
        case X9 => k_asm
        case N9 => k_asm
        case T9 => k_asm
        case dp9 => k_room
        case un9 => k_units
        case pre9 => exact List.mem_cons_self
        rintro r9 news9 h9 tk9 F9 N9 ⟨ca, cits, nc, cw, rfl, rfl, lc, hcI, hcC, hcl, hcb⟩
        have hcs : cits.size = cw.length := by rw [← Array.length_toList, hcI.length, List.length_map]
        (try k_lt lc)
        k_steps
        unfold Halt
        refine For_listF (by k_asm) ?_
        k_steps
        unfold Halt
        refine ⟨ca, cits, _, _, feJ w.params _ _ _ _ (beBytes 4 (Mn + 1) ++ beBytes 4 cw.length) cw _, rfl, rfl, by k_asm, by k_asm, .inr ⟨listOf cits nc, by k_mem, rfl, _, rfl⟩, ⟨fun _ _ => rfl, _, _, rfl, by simp [flat8]⟩, ?src, ?turn2, ?done2⟩
        case src => rintro i m nw ⟨_, bs, t2, rfl, _⟩; exact .inr ⟨listOf cits nc, by k_mem, rfl, _, rfl⟩
        case turn2 =>
          rintro i v I m₁ nw oI h tk hv ⟨hm6, bs, t2, rfl, hbs⟩ F₁ N₁ off₁
          obtain ⟨_, tv, rfl, hcv⟩ := hcI.at i v (by simpa using hv)
          obtain ⟨c, hci, rfl⟩ : ∃ c, cw[i]? = some c ∧ ((c : Nat) : Int) = _ := by
            rw [List.getElem?_map] at hcv
            cases q : cw[i]? with
            | none => rw [q] at hcv; cases hcv
            | some c => rw [q] at hcv; exact ⟨c, rfl, Option.some.inj hcv⟩
          have hc64 : c < 2 ^ 64 := hcb c (List.mem_of_getElem? hci)
          have hbz : bs.size ≤ 200 := by
            rw [hbs, Array.size_append, Array.size_append, flat8_size, beBytes_size, beBytes_size, List.length_take]
            omega
          have offf := off₁
          simp only [List.forall_mem_cons] at offf
          obtain ⟨of1, of2, of3⟩ := offf
          replace of1 := neN of1; replace of2 := neN of2
          have F₂ := Fr.ov F₁ hm6
          dsimp only [ov] at F₂
          clear F₁
          k_dflt (refine wpAny_assign_Name (storeX_L F₂ N₁ ?_))
          intro h' F' N'
          k_steps
          refine' ForEnd.next ?F4 ?N4 ?sub4 ?off4 ?J4
          case F4 => k_asm
          case N4 => k_asm
          case sub4 => exact fun _ h => h
          case off4 => exact List.forall_mem_cons.mpr ⟨of1, List.forall_mem_cons.mpr ⟨of2, List.forall_mem_cons.mpr ⟨of3.1, List.forall_mem_cons.mpr ⟨of3.2.1, of3.2.2⟩⟩⟩⟩
          case J4 =>
            refine ⟨?_, _, _, rfl, ?_⟩
            · intro y hy
              simp only [List.mem_cons, List.not_mem_nil, or_false] at hy
              simp only [if_neg hy]
            · rw [hbs, List.take_add_one, hci, Option.toList_some, flat8_snoc, Array.append_assoc]
        case done2 =>
          rintro m' nw h tk ⟨hm6, bs, t2, rfl, hbs⟩ F₁ N₁
          have F₂ := Fr.ov F₁ hm6
          dsimp only [ov] at F₂
          clear F₁
          have hbz : bs.size ≤ 200 := by
            rw [hbs, Array.size_append, Array.size_append, flat8_size, beBytes_size, beBytes_size, List.length_take]
            omega
          k_steps
          rw [hcs, List.take_length] at hbs
          refine ret _ _ _ _ (by k_asm) (News.sub' (by k_asm) fun p hp => by k_mem) ⟨rfl, _, _, rfl, .inr ⟨Mn + 1, cw, W, by rw [hbs], hcC, hcl, by omega, by omega, hcb, fun z => ⟨fun hz => ?_, ?_⟩⟩⟩
          · obtain ⟨n, rfl, hn⟩ := hS z hz
            have hmem : ((64 * (n / 64) + n % 64 : Nat) : Int) ∈ ord := by
              rw [Nat.div_add_mod]; exact hp.mem_iff.mpr ((hm1 _).2 hz)
            exact ⟨n / 64, n % 64, Nat.mod_lt _ (by decide), by rw [Nat.div_add_mod], (hB _ _).2 ⟨Nat.mod_lt _ (by decide), hmem⟩⟩
          · rintro ⟨i, j, hj, rfl, ht⟩
            exact (hm1 _).1 (hp.mem_iff.mp ((hB i j).1 ht).2)
end Mine
end
section
open PySem PySem.W PyProof.Rows
namespace Mine
local macro_rules | `(tactic| walk_at "pad 0") => `(tactic| skip)
local macro_rules | `(tactic| walk_at "pad 1") => `(tactic| skip)
local macro_rules | `(tactic| walk_at "pad 2") => `(tactic| skip)
local macro_rules | `(tactic| walk_at "pad 3") => `(tactic| skip)
local macro_rules | `(tactic| walk_at "pad 4") => `(tactic| skip)
local macro_rules | `(tactic| walk_at "pad 5") => `(tactic| skip)
local macro_rules | `(tactic| walk_at "pad 6") => `(tactic| skip)
local macro_rules | `(tactic| walk_at "pad 7") => `(tactic| skip)
local macro_rules | `(tactic| walk_at "pad 8") => `(tactic| skip)
local macro_rules | `(tactic| walk_at "pad 9") => `(tactic| skip)
local macro_rules | `(tactic| walk_at "pad 10") => `(tactic| skip)
local macro_rules | `(tactic| walk_at "pad 11") => `(tactic| skip)
local macro_rules | `(tactic| walk_at "pad 12") => `(tactic| skip)
local macro_rules | `(tactic| walk_at "pad 13") => `(tactic| skip)
local macro_rules | `(tactic| walk_at "pad 14") => `(tactic| skip)
local macro_rules | `(tactic| walk_at "pad 15") => `(tactic| skip)
local macro_rules | `(tactic| walk_at "pad 16") => `(tactic| skip)
local macro_rules | `(tactic| walk_at "pad 17") => `(tactic| skip)
local macro_rules | `(tactic| walk_at "pad 18") => `(tactic| skip)
local macro_rules | `(tactic| walk_at "pad 19") => `(tactic| skip)
local macro_rules | `(tactic| walk_at "pad 20") => `(tactic| skip)
local macro_rules | `(tactic| walk_at "pad 21") => `(tactic| skip)
local macro_rules | `(tactic| walk_at "pad 22") => `(tactic| skip)
local macro_rules | `(tactic| walk_at "pad 23") => `(tactic| skip)
local macro_rules | `(tactic| walk_at "pad 24") => `(tactic| skip)
local macro_rules | `(tactic| walk_at "pad 25") => `(tactic| skip)
local macro_rules | `(tactic| walk_at "pad 26") => `(tactic| skip)
local macro_rules | `(tactic| k_room) => `(tactic| ktr_room)
local macro_rules | `(tactic| k_units) => `(tactic| ktr_units)
local macro_rules | `(tactic| walk_at "call type:set nil nil") => `(tactic| (k_here; k_dflt (refine setNew_N (by k_asm) (by k_asm) ?_); intro d' h' so' F' N' l1 hs'; (try k_lt l1)))
local macro_rules | `(tactic| walk_at "getMethod ref") => `(tactic| (k_here; (with_reducible show wpAny _ _ (getMethod (Value.ref _) (Str.ofString "add") _) _ _ _); k_dflt (refine' setMeth_N ?N ?a ?s ?_; (case N => k_asm); (case a => k_mem); (case s => assumption))))
local macro_rules | `(tactic| walk_at "call builtin:len") => `(tactic| (k_here; (with_reducible show wpAny _ _ (call (Value.builtin "len") [Value.ref _]) _ _ _); k_dflt (refine' setLen_N ?N ?a ?s ?_; (case N => k_asm); (case a => k_mem); (case s => assumption)); (try dsimp only)))
local macro_rules | `(tactic| walk_at "exec For") => `(tactic| (k_here; refine halt ?_))
local macro_rules | `(tactic| walk_at "exec For Name Call cons nil") => `(tactic| (k_here; refine halt ?_))
local macro_rules | `(tactic| walk_at "exec For Name Name cons nil") => `(tactic| (k_here; refine halt ?_))
local macro_rules | `(tactic| walk_at "exec For Name Attribute cons nil") => `(tactic| (k_here; refine halt ?_))
local macro_rules | `(tactic| walk_at "exec For Tuple Name cons nil") => `(tactic| (k_here; refine halt ?_))
local macro_rules | `(tactic| walk_at "exec For Tuple Call cons nil") => `(tactic| (k_here; refine halt ?_))
local macro_rules | `(tactic| walk_at "exec While") => `(tactic| (k_here; refine halt ?_))
local macro_rules | `(tactic| walk_at "call builtin:len") => `(tactic| (k_here; (with_reducible show wpAny _ _ (call (Value.builtin "len") [Value.ref _]) _ _ _); k_dflt (refine' KM.len_K ?N ?m ?s ?f ?_; (case N => k_asm); (case m => k_mem); (case s => first | assumption | exact (Array.size_push _).trans (congrArg Nat.succ (by assumption))); (case f => omega)); (try dsimp only)))
local macro_rules | `(tactic| walk_at "call type:range") => `(tactic| (k_here; k_dflt (refine' range_N ?F ?N ?_; (case F => k_asm); (case N => k_asm)); intro r' h' tk' t1' u1' v1' R' F' N'; (try dsimp only)))
local macro_rules | `(tactic| walk_at "binaryOp Pow int int") => `(tactic| (k_here; (with_reducible refine natPow ?a ?_; (case a => omega)); (try dsimp only)))
local macro_rules | `(tactic| walk_at "binaryOp FloorDiv int int") => `(tactic| (k_here; (with_reducible refine natDivPow ?a ?_; (case a => omega)); (try dsimp only)))
local macro_rules | `(tactic| walk_at "binaryOp Mod int int") => `(tactic| (k_here; (with_reducible refine natMod2 ?_); (try dsimp only)))
local macro_rules | `(tactic| walk_at "call builtin:set.add") => `(tactic| (k_here; (with_reducible show wpAny _ _ (call (Value.builtin "set.add") [Value.ref _, Value.int _ _]) _ _ _); k_dflt (refine' setAdd_N ?F ?N ?U ?s ?r ?k ?_; (case F => k_asm); (case N => k_asm); (case U => k_updF); (case s => assumption); (case r => omega); (case k => assumption)); intro h' o' ks' F' N' s' p'; (try dsimp only at N')))
local macro_rules | `(tactic| walk_at "eval ListComp") => `(tactic| (k_here; refine halt ?_))
local macro_rules | `(tactic| walk_at "exec Assign cons ListComp") => `(tactic| (k_here; refine halt ?_))
local macro_rules | `(tactic| walk_at "SrcLP") => `(tactic| (k_here; refine halt ?_))
local macro_rules | `(tactic| walk_at "CompSrc") => `(tactic| (k_here; refine halt ?_))
local macro_rules | `(tactic| walk_at "CompEnd") => `(tactic| (k_here; refine halt ?_))
local macro_rules | `(tactic| walk_at "binaryOp BitXor") => `(tactic| (k_here; (with_reducible show wpAny _ _ (binaryOp _ (Value.ref _) (Value.ref _)) _ _ _); k_dflt (refine' binop_K ?k1 ?k2 ?k3 ?k4 ?k5 ?k6 ?k7 ?_; (case k1 => k_asm); (case k2 => k_asm); (case k3 => k_inst); (case k4 => k_typeOf); (case k5 => k_is); (case k6 => k_is); (case k7 => k_is); k_whole)))
local macro_rules | `(tactic| walk_at "binaryOp BitXor int int") => `(tactic| (k_here; (with_reducible refine natXor ?_); (try dsimp only)))
local macro_rules | `(tactic| walk_at "subscriptTail") => `(tactic| (k_here; (with_reducible show wpAny _ _ (subscriptTail _ _ (Value.ref _) (Value.int _ _)) _ _ _); k_dflt (refine' itemL_N ?N ?m ?i ?x ?_; (case N => k_asm); (case m => k_mem); (case x => assumption); (case i => omega))))
local macro_rules | `(tactic| walk_at "binaryOp Add ref ref") => `(tactic| (k_here; (with_reducible show wpAny _ _ (binaryOp _ (Value.ref _) (Value.ref _)) _ _ _); k_dflt (refine' addL_N ?F ?N ?a ?b ?z ?_; (case F => k_asm); (case N => k_asm); (case a => k_mem); (case b => k_mem); (case z => first | assumption | omega)); intro D' h' F' N' l1; (try k_lt l1)))
local macro_rules | `(tactic| k_mem) => `(tactic| first | ktr_member | with_reducible assumption | exact List.mem_cons_self | ((with_reducible refine List.mem_cons_of_mem _ ?_); k_mem) | ((with_reducible refine List.mem_append_left _ ?_); k_mem) | ((with_reducible refine List.mem_append_right _ ?_); k_mem))
local macro_rules | `(tactic| walk_at "call builtin:list.append") => `(tactic| (k_here; (with_reducible show wpAny _ _ (call (Value.builtin _) [Value.ref _, _]) _ _ _); k_dflt (refine' append_K ?k1 ?k2 ?k3 ?_ ?z; (case k1 => k_asm); (case k2 => k_asm); (case k3 => first | k_upd | exact Upd.head (by assumption)); (case z => exact Nat.le_trans (m := 16384) (by omega) (by decide))); intro h' F' N'))
local macro_rules | `(tactic| walk_at "exec While Compare") => `(tactic| (k_here; refine halt ?_))
local macro_rules | `(tactic| walk_at "exec While BoolOp") => `(tactic| (k_here; refine halt ?_))
local macro_rules | `(tactic| walk_at "binaryOp LShift int int") => `(tactic| (k_here; (first | (with_reducible refine natShl33 ?a ?_; (case a => omega)) | (with_reducible refine natShl1 ?a ?_; (case a => omega)) | (with_reducible refine zeroShl1 ?_)); (try dsimp only)))
local macro_rules | `(tactic| walk_at "binaryOp BitOr int int") => `(tactic| (k_here; (first | with_reducible refine natOr ?_ | with_reducible refine natOr0 ?_); (try dsimp only)))
local macro_rules | `(tactic| walk_at "call builtin:list.extend") => `(tactic| (k_here; (with_reducible show wpAny _ _ (call (Value.builtin _) [Value.ref _, Value.ref _]) _ _ _); k_dflt (refine' extL_N ?F ?N ?b ?U ?z ?_; (case F => k_asm); (case N => k_asm); (case b => k_mem); (case U => k_updF); (case z => first | omega | (simp only [Array.size_push]; omega))); intro h' n' F' N'; (try dsimp only at N')))

local macro_rules | `(tactic| walk_at "binaryOp Add int int") => `(tactic| (k_here; (first | with_reducible refine natAdd1 ?_ | with_reducible refine natAdd63 ?_ | with_reducible refine natAdd64 ?_ | with_reducible refine natAdd ?_); (try dsimp only)))
local macro_rules | `(tactic| walk_at "inplaceOp Add int int") => `(tactic| (k_here; (first | with_reducible refine natIadd1 ?_ | with_reducible refine natIadd64 ?_ | with_reducible refine natIadd ?_); (try dsimp only)))
local macro_rules | `(tactic| walk_at "binaryOp FloorDiv int int") => `(tactic| (k_here; (with_reducible refine natDiv64 ?_); (try dsimp only)))
local macro_rules | `(tactic| walk_at "binaryOp Mult int int") => `(tactic| (k_here; (with_reducible refine natMul64 ?a ?_; (case a => omega)); (try dsimp only)))
local macro_rules | `(tactic| walk_at "binaryOp RShift int int") => `(tactic| (k_here; (first | with_reducible refine natShr1 ?_ | with_reducible refine natShr33 ?_); (try dsimp only)))
local macro_rules | `(tactic| walk_at "binaryOp LShift int int") => `(tactic| (k_here; (with_reducible refine natShlOne ?a ?_; (case a => omega)); (try dsimp only)))
local macro_rules | `(tactic| walk_at "binaryOp BitAnd int int") => `(tactic| (k_here; (first | with_reducible refine natAnd1 ?_ | with_reducible refine natAndM ?_ | with_reducible refine natAndBit ?_); (try dsimp only)))
local macro_rules | `(tactic| walk_at "subscriptTail") => `(tactic| (k_here; (with_reducible show wpAny _ _ (subscriptTail _ (PySem.Expr.Slice _ _ none _) (Value.bytes (_ ++ _) _) (Value.ref _)) _ _ _); (with_reducible rename Fr _ _ _ _ => F'); (with_reducible rename News _ _ _ _ => N'); (first | (with_reducible refine sliceToA4_N (s := ⟨_, _, _, _, _⟩) F' N' (beBytes_size _ _) ?z ?_) | (with_reducible refine sliceToA8_N (s := ⟨_, _, _, _, _⟩) F' N' (beBytes_size _ _) ?z ?_) | (with_reducible refine sliceFromA_N (s := ⟨_, _, _, _, _⟩) F' N' ?z ?_)); (case z => (simp only [Array.size_append, beBytes_size, flat8_size, List.length_drop, List.length_nil] <;> omega)); intro h' t' tk' F' N'))
local macro_rules | `(tactic| walk_at "call builtin:_struct.unpack") => `(tactic| (k_here; k_dflt ((first | refine' unpackI_N ?F ?N ?n ?_ | refine' unpackQ_N ?F ?N ?n ?_); (case F => k_asm); (case N => k_asm); (case n => first | omega | assumption)); intro D' h' t' F' N' l1; (try k_lt l1)))
local macro_rules | `(tactic| walk_at "call builtin:len") => `(tactic| (k_here; (with_reducible show wpAny _ _ (call (Value.builtin "len") [Value.bytes _ _]) _ _ _); (refine len_bytes ?z ?_; (case z => (first | (rw [beBytes_size]; decide) | (simp only [Array.size_append, beBytes_size, flat8_size]; omega)))); (try dsimp only)))

def drJ (P : Params) (m₀ : Str → Option Value) (l f df : Addr) (t1 : Tok) (cw : List Nat) (base : List (Addr × Obj)) (i : Nat) (m : Str → Option Value) (nw : List (Addr × Obj)) : Prop :=
  (∀ y, y ∉ [Str.ofString "_", Str.ofString "word_bytes", Str.ofString "word"] → m y = m₀ y) ∧ ∃ its nn t2, nw = (l, listOf its nn) :: (f, instObj 96 df) :: (df, bioD P (flat8 (cw.drop i) ++ beBytes 4 0) t1 t2) :: base ∧ IntsAre its.toList (nats (cw.take i)) ∧ its.size = i
def dwJ (w : World) (m₀ : Str → Option Value) (l f df x dx b : Addr) (its : Array Value) (nn : Nat) (oB : Obj) (c' : Int) (t1 t2 t3 : Tok) (cw W : List Nat) (rest : List (Addr × Obj)) (k : Nat) (m : Str → Option Value) (nw : List (Addr × Obj)) : Prop :=
  ∃ (idx cb : Nat) (ti tc : Tok) (dn wr : List Nat) (so : Obj) (ks : List Int),
    (∀ y, y ∉ [Str.ofString "idx", Str.ofString "current_bit", Str.ofString "rlw", Str.ofString "running_bit", Str.ofString "running_len", Str.ofString "literal_words", Str.ofString "run_bits", Str.ofString "_", Str.ofString "literal", Str.ofString "i"] → m y = m₀ y) ∧
    m (Str.ofString "idx") = some (.int (idx : Nat) ti) ∧ m (Str.ofString "current_bit") = some (.int (cb : Nat) tc) ∧ cb = 64 * dn.length ∧
    nw = (l, listOf its nn) :: (f, instObj 96 df) :: (df, oB) :: (b, so) :: (x, instObj 188 dx) :: (dx, bmD w.params b c' t1 t2 t3) :: rest ∧
    Codes (cw.drop idx) wr ∧ W = dn ++ wr ∧ idx + k = cw.length ∧ SetIs w so ks ∧ BitsTo W dn.length ks
def dlJ (w : World) (m₀ : Str → Option Value) (l f df x dx b : Addr) (its : Array Value) (nn : Nat) (oB : Obj) (c' : Int) (t1 t2 t3 : Tok) (W : List Nat) (rest : List (Addr × Obj)) (i0 N0 : Nat) (q : Nat) (m : Str → Option Value) (nw : List (Addr × Obj)) : Prop :=
  ∃ (idx cb : Nat) (ti tc : Tok) (so : Obj) (ks : List Int),
    (∀ y, y ∉ [Str.ofString "idx", Str.ofString "current_bit", Str.ofString "_", Str.ofString "literal", Str.ofString "i"] → m y = m₀ y) ∧
    m (Str.ofString "idx") = some (.int (idx : Nat) ti) ∧ idx = i0 + q ∧ m (Str.ofString "current_bit") = some (.int (cb : Nat) tc) ∧ cb = 64 * (N0 + q) ∧
    nw = (l, listOf its nn) :: (f, instObj 96 df) :: (df, oB) :: (b, so) :: (x, instObj 188 dx) :: (dx, bmD w.params b c' t1 t2 t3) :: rest ∧
    SetIs w so ks ∧ BitsTo W (N0 + q) ks
def dbJ (w : World) (m₀ : Str → Option Value) (l f df x dx b : Addr) (its : Array Value) (nn : Nat) (oB : Obj) (c' : Int) (t1 t2 t3 : Tok) (W : List Nat) (I : Addr) (oI : Obj) (rest : List (Addr × Obj)) (N : Nat) (q : Nat) (m : Str → Option Value) (nw : List (Addr × Obj)) : Prop :=
  ∃ (so : Obj) (ks : List Int),
    (∀ y, y ∉ [Str.ofString "i"] → m y = m₀ y) ∧
    nw = (I, oI) :: (l, listOf its nn) :: (f, instObj 96 df) :: (df, oB) :: (b, so) :: (x, instObj 188 dx) :: (dx, bmD w.params b c' t1 t2 t3) :: rest ∧
    SetIs w so ks ∧ BitsIn W N q ks
local macro_rules | `(tactic| walk_at "subscriptTail") => `(tactic| (k_here; (with_reducible show wpAny _ _ (subscriptTail _ _ (Value.ref _) (Value.int (Nat.cast _) _)) _ _ _); k_dflt (refine' itemW_N ?N ?m ?I ?i ?f ?_; (case N => k_asm); (case m => k_mem); (case I => assumption); (case i => omega); (case f => omega)); intro t'))
local macro_rules | `(tactic| walk_at "subscriptTail Name Name ref int") => `(tactic| (k_here; (with_reducible show wpAny _ _ (subscriptTail _ _ (Value.ref _) (Value.int (Nat.cast _) _)) _ _ _); k_dflt (refine' itemW_N ?N ?m ?I ?i ?f ?_; (case N => k_asm); (case m => k_mem); (case I => assumption); (case i => omega); (case f => omega)); intro t'))
local macro_rules | `(tactic| walk_at "ite") => `(tactic| (k_here; k_openite; first | (refine ite_pos (by (simp only [decide_eq_true_eq]; omega)) ?_) | (refine ite_neg (by (simp only [decide_eq_true_eq]; omega)) ?_)))
theorem News.drop23 {h₀ h : Heap} {L : Addr} {p1 p2 p3 : Addr × Obj} {l : List (Addr × Obj)} (N : News h₀ L h (p1 :: p2 :: p3 :: l)) : News h₀ L h (p1 :: l) :=
  News.sub' N fun p hp => by simp only [List.mem_cons] at hp ⊢; rcases hp with h | h <;> simp [h]
theorem flat8_consE (c : Nat) (l : List Nat) : flat8 (c :: l) = beBytes 8 c ++ flat8 l := by
  apply Array.toList_inj.mp
  simp [flat8]
theorem flat8_cons {l : List Nat} {i c : Nat} (h : l[i]? = some c) : flat8 (l.drop i) ++ beBytes 4 0 = beBytes 8 c ++ (flat8 (l.drop (i + 1)) ++ beBytes 4 0) := by
  obtain ⟨hi, rfl⟩ := List.getElem?_eq_some_iff.mp h
  have e : flat8 (l.drop i) = beBytes 8 l[i] ++ flat8 (l.drop (i + 1)) := by
    rw [List.drop_eq_getElem_cons hi]; exact flat8_consE _ _
  rw [e, Array.append_assoc]
set_option maxRecDepth 100000 in
set_option maxHeartbeats 8000000 in
theorem de_c : ∀ (w : World) (x dx b : Addr) (so : Obj) (c0 : Int) (t1 t2 t3 t : Tok) (rest : List (Addr × Obj)) (S : List Int) (bc : Nat) (cw W : List Nat), S.length ≤ 6 → Codes cw W → cw.length ≤ 14 → (bc + 63) / 64 = W.length → W.length ≤ 7 → (∀ c ∈ cw, c < 2 ^ 64) →
    (∀ z : Int, z ∈ S ↔ ∃ i j : Nat, j < 64 ∧ z = ((64 * i + j : Nat) : Int) ∧ (W.getD i 0).testBit j = true) → SetIs w so [] → (∀ p ∈ rest, p.1 < dx) → @LT.lt Nat _ dx x → @LT.lt Nat _ x b →
    Calls w 40 600 129 [.ref x, .bytes (beBytes 4 bc ++ (beBytes 4 cw.length ++ (flat8 cw ++ beBytes 4 0))) t] (fun news => news = (b, so) :: (x, instObj 188 dx) :: (dx, bmD w.params b c0 t1 t2 t3) :: rest)
      (fun _ news' _ => ∃ so' ks c' t3', news' = (b, so') :: (x, instObj 188 dx) :: (dx, bmD w.params b c' t1 t2 t3') :: rest ∧ SetIs w so' ks ∧ ∀ i, i ∈ ks ↔ i ∈ S) := by
  unfold Calls
  k_fill
  intro w x dx b so c0 t1 t2 t3 t rest S bc cw W hS6 hcod hcw hbc hW7 hc64 hSW hso hrest hdx hxb mean mg mb dp un gd cn cs a ccd cl outer A₀ base h₀ L m news s Q E B F X N T hk hdp hun hnews ret
  subst hnews
  have hall : AllLt dx rest := allLt_of hrest
  have hallb : AllLt b rest := allLt_of fun p hp => Nat.lt_trans (hrest p hp) (Nat.lt_trans hdx hxb)
  have hbA : (beBytes 4 bc).size = 4 := beBytes_size 4 bc
  have hbB : (beBytes 4 cw.length).size = 4 := beBytes_size 4 cw.length
  refine wpAny_call ?_
  k_dflt ktr_enter
  k_steps
  unfold Halt
  refine For_range0F (by k_asm) rfl ?_
  k_steps
  unfold Halt
  refine ⟨_, _, _, _, _, _, _, drJ w.params _ _ _ _ _ cw _, rfl, by k_asm, News.drop23 (by k_asm), by assumption, by omega, ⟨fun _ _ => rfl, _, _, _, rfl, .nil, rfl⟩, ?turn, ?done⟩
  case turn =>
    rintro i tk' I m₁ nw oI h tk hi ⟨hm, its, nn, t2, rfl, hI, hsz⟩ F₁ N₁ off₁
    have offf := off₁
    simp only [List.forall_mem_cons] at offf
    obtain ⟨of1, of2, of3, of4⟩ := offf
    replace of1 := neN of1; replace of2 := neN of2; replace of3 := neN of3
    have F₂ := Fr.ov F₁ hm
    dsimp only [ov] at F₂
    clear F₁
    obtain ⟨c, hci⟩ : ∃ c, cw[i]? = some c := ⟨_, List.getElem?_eq_getElem hi⟩
    have hc : c < 2 ^ 64 := hc64 c (List.mem_of_getElem? hci)
    have hb8 : (beBytes 8 c).size = 8 := beBytes_size 8 c
    rw [flat8_cons hci] at N₁
    k_dflt (refine wpAny_assign_Name (storeX_L F₂ N₁ ?_))
    intro h' F' N'
    k_steps
    refine' ForEnd.next ?F3 ?N3 ?sub3 ?off3 ?J3
    case F3 => k_asm
    case N3 => k_asm
    case sub3 => exact fun _ h => List.mem_cons_of_mem _ h
    case off3 => exact List.forall_mem_cons.mpr ⟨of1, List.forall_mem_cons.mpr ⟨of2, List.forall_mem_cons.mpr ⟨of3, fun p hp => off₁ p (List.mem_cons_of_mem _ (List.mem_cons_of_mem _ (List.mem_cons_of_mem _ hp)))⟩⟩⟩
    case J3 =>
      refine ⟨?_, _, _, _, rfl, ?_, by rw [Array.size_push, hsz]⟩
      · intro y hy
        simp only [List.mem_cons, List.not_mem_nil, or_false, not_or] at hy
        simp only [if_neg hy.1, if_neg hy.2.1, if_neg hy.2.2]
      · rw [List.take_add_one, hci, nats_app, Array.toList_push]
        exact IntsAre.snocE hI rfl
  case done =>
    rintro m' nw h tk ⟨hm, its, nn, t8, rfl, hI, hsz⟩ F₁ N₁
    have F₂ := Fr.ov F₁ hm
    dsimp only [ov] at F₂
    clear F₁
    rw [List.take_length] at hI
    have eB : flat8 (cw.drop cw.length) ++ beBytes 4 0 = beBytes 4 0 ++ flat8 [] := by rw [List.drop_length]; simp [flat8]
    rw [eB] at N₁
    k_steps
    unfold Halt
    refine noraise (While_J0 (dwJ w _ _ _ _ x dx b its nn _ _ t1 t2 _ cw W rest) (n₀ := cw.length) (by k_asm) (by k_asm) ⟨0, 0, _, _, [], W, so, [], fun _ _ => rfl, rfl, rfl, rfl, rfl, hcod, rfl, by omega, hso, fun z => ⟨fun h => (nomatch h), fun ⟨i, j, h, _⟩ => absurd h (Nat.not_lt_zero _)⟩⟩ ?turn2 ?done2)
    case turn2 =>
      rintro k m₁ nw h₁ tk₁ F₁ N₁ ⟨idx, cb, ti, tc, dn, wr, so1, ks, hm1, hmi, hmc, hcb, rfl, hcd, hW, hik, hs1, hks⟩
      have F₂ := Fr.ov F₁ hm1
      dsimp only [ov] at F₂
      rw [hmi, hmc] at F₂
      clear F₁
      by_cases hlt : idx < cw.length
      · generalize hl : cw.drop idx = L0 at hcd
        cases hcd with
        | nil => exfalso; have h9 := congrArg List.length hl; rw [List.length_drop, List.length_nil] at h9; omega
        | cons r lits cw' ws' hc' =>
          have hX : cw.getD idx 0 = lits.length * 2 ^ 33 + r * 2 := by
            rw [List.drop_eq_getElem_cons hlt] at hl
            rw [List.getD_eq_getElem?_getD, List.getElem?_eq_getElem hlt]
            exact (List.cons.inj hl).1
          have hWl := congrArg List.length hW
          simp only [List.length_append, List.length_replicate] at hWl
          have hll := congrArg List.length hl
          simp only [List.length_drop, List.length_cons, List.length_append] at hll
          have hr : cw.getD idx 0 / 2 % 2 ^ 32 = r := by omega
          have hq : cw.getD idx 0 / 2 ^ 33 = lits.length := by omega
          have hp : cw.getD idx 0 % 2 = 0 := by omega
          have hks' : BitsTo W (dn.length + r) ks := hks.zeros fun i h1 h2 => by rw [hW]; exact zeros_at h1 h2
          k_steps
          · exfalso; omega
          all_goals
            unfold Halt
            refine For_range0F (by k_asm) rfl ?_
            k_steps
            unfold Halt
            refine ⟨_, _, _, _, _, _, _, dlJ w _ _ _ _ x dx b its nn _ _ t1 t2 _ W rest (idx + 1) (dn.length + r), rfl, by k_asm, by k_asm, by assumption, by omega, ⟨_, _, _, _, so1, ks, fun _ _ => rfl, rfl, rfl, rfl, by omega, rfl, hs1, hks'⟩, ?_, ?_⟩
            · rintro q tk' I m₂ nw oI h tk hq' ⟨ix, cb2, ti2, tc2, so2, ks2, hm2, hmi2, rfl, hmc2, rfl, rfl, hs2, hks2⟩ F₁ N₁ off₁
              have F₂ := Fr.ov F₁ hm2
              dsimp only [ov] at F₂
              rw [hmi2, hmc2] at F₂
              clear F₁
              have offf := off₁
              simp only [List.forall_mem_cons] at offf
              obtain ⟨of1, of2, of3, of4, of5, of6, of7⟩ := offf
              replace of1 := neN of1; replace of2 := neN of2; replace of3 := neN of3; replace of4 := neN of4; replace of5 := neN of5; replace of6 := neN of6
              have hlit : cw.getD (idx + 1 + q) 0 = W.getD (dn.length + r + q) 0 := by rw [hW]; exact lit_at (by omega) hl
              k_dflt (refine wpAny_assign_Name (storeX_L F₂ N₁ ?_))
              intro h' F' N'
              k_steps
              unfold Halt
              refine For_range0F (by k_asm) rfl ?_
              k_steps
              unfold Halt
              refine ⟨_, 64, _, _, _, _, _, dbJ w _ _ _ _ x dx b its nn _ _ t1 t2 _ W I oI rest (dn.length + r + q), rfl, by k_asm, by k_asm, by assumption, by decide, ⟨so2, ks2, fun _ _ => rfl, rfl, hs2, hks2.start⟩, ?_, ?_⟩
              · rintro j tk' I4 m₄ nw oI4 h tk hj ⟨so4, ks4, hm4, rfl, hs4, hks4⟩ F₁ N₁ off₄
                have F₂ := Fr.ov F₁ hm4
                dsimp only [ov] at F₂
                clear F₁
                have hl4 := List.Nodup.length_le_of_subset hs4.nodup (hks4.sub hSW)
                have hnew := hks4.new hj
                have offf := off₄
                simp only [List.forall_mem_cons] at offf
                obtain ⟨og0, og1, og2, og3, og4, og5, og6, og7⟩ := offf
                replace og0 := neN og0; replace og1 := neN og1; replace og2 := neN og2; replace og3 := neN og3; replace og4 := neN og4; replace og5 := neN og5; replace og6 := neN og6
                k_dflt (refine wpAny_assign_Name (storeX_L F₂ N₁ ?_))
                intro h' F' N'
                k_steps
                · refine ForEnd.next (by k_asm) (by k_asm) (fun _ h => h) ?_ ?_
                  · exact List.forall_mem_cons.mpr ⟨og0, List.forall_mem_cons.mpr ⟨og1, List.forall_mem_cons.mpr ⟨og2, List.forall_mem_cons.mpr ⟨og3, List.forall_mem_cons.mpr ⟨og4, List.forall_mem_cons.mpr ⟨og5, List.forall_mem_cons.mpr ⟨og6, og7⟩⟩⟩⟩⟩⟩⟩
                  · exact ⟨_, _, fun y hy => by simp only [List.mem_cons, List.not_mem_nil, or_false] at hy; simp only [if_neg hy], rfl, by assumption, hks4.add hj (by rw [← hlit]; exact bit_pos (by assumption)) (by assumption)⟩
                · refine ForEnd.next (by k_asm) (by k_asm) (fun _ h => h) ?_ ?_
                  · exact off₄
                  · exact ⟨_, _, fun y hy => by simp only [List.mem_cons, List.not_mem_nil, or_false] at hy; simp only [if_neg hy], rfl, hs4, hks4.skip (by rw [← hlit]; exact bit_neg (by assumption))⟩
              · rintro m' nw h tk ⟨so4, ks4, hm4, rfl, hs4, hks4⟩ F₁ N₁
                have F₂ := Fr.ov F₁ hm4
                dsimp only [ov] at F₂
                clear F₁
                k_steps
                refine ForEnd.next (by k_asm) (by k_asm) (fun _ h => h) ?_ ?_
                · exact List.forall_mem_cons.mpr ⟨of1, List.forall_mem_cons.mpr ⟨of2, List.forall_mem_cons.mpr ⟨of3, List.forall_mem_cons.mpr ⟨of4, List.forall_mem_cons.mpr ⟨of5, List.forall_mem_cons.mpr ⟨of6, of7⟩⟩⟩⟩⟩⟩
                · refine ⟨_, _, _, _, so4, ks4, fun y hy => ?_, rfl, by omega, rfl, by omega, rfl, hs4, hks4.done⟩
                  simp only [List.mem_cons, List.not_mem_nil, or_false, not_or] at hy
                  simp only [if_neg hy.1, if_neg hy.2.1, if_neg hy.2.2.1, if_neg hy.2.2.2.1, if_neg hy.2.2.2.2]
            · rintro m' nw h tk ⟨ix, cb2, ti2, tc2, so2, ks2, hm2, hmi2, rfl, hmc2, rfl, rfl, hs2, hks2⟩ F₁ N₁
              have F₂ := Fr.ov F₁ hm2
              dsimp only [ov] at F₂
              rw [hmi2, hmc2] at F₂
              clear F₁
              k_steps
              refine WhileStep.intro (by k_asm) (by k_asm) (n' := k - 1 - lits.length) (by omega) ⟨_, _, _, _, dn ++ (List.replicate r 0 ++ lits), ws', so2, ks2, fun y hy => ?_, rfl, rfl, by rw [Nlen]; omega, rfl, by rw [hq, drop_lits hl]; exact hc', by rw [hW]; simp only [List.append_assoc], by omega, hs2, by rw [Nlen, ← hq]; exact hks2⟩
              simp only [List.mem_cons, List.not_mem_nil, or_false, not_or] at hy
              simp only [if_neg hy.1, if_neg hy.2.1, if_neg hy.2.2.1, if_neg hy.2.2.2.1, if_neg hy.2.2.2.2.1, if_neg hy.2.2.2.2.2.1, if_neg hy.2.2.2.2.2.2.1, if_neg hy.2.2.2.2.2.2.2.1, if_neg hy.2.2.2.2.2.2.2.2.1, if_neg hy.2.2.2.2.2.2.2.2.2]
      · k_steps
        refine WhileOut.intro (by k_asm) (by k_asm) ⟨idx, cb, ti, tc, dn, wr, so1, ks, fun y hy => ?_, rfl, rfl, hcb, rfl, hcd, hW, by omega, hs1, hks⟩
        simp only [List.mem_cons, List.not_mem_nil, or_false, not_or] at hy
        simp only [if_neg hy.1, if_neg hy.2.1, if_neg hy.2.2.1, if_neg hy.2.2.2.1, if_neg hy.2.2.2.2.1, if_neg hy.2.2.2.2.2.1, if_neg hy.2.2.2.2.2.2.1, if_neg hy.2.2.2.2.2.2.2.1, if_neg hy.2.2.2.2.2.2.2.2.1, if_neg hy.2.2.2.2.2.2.2.2.2]
    case done2 =>
      rintro m₂ nw h tk ⟨idx, cb, ti, tc, dn, wr, so1, ks, hm1, hmi, hmc, hcb, rfl, hcd, hW, hik, hs1, hks⟩ F₁ N₁
      have F₂ := Fr.ov F₁ hm1
      dsimp only [ov] at F₂
      clear F₁
      have hwr : wr = [] := by
        rw [List.drop_eq_nil_of_le (by omega)] at hcd
        cases hcd; rfl
      have hdl : dn.length = W.length := by rw [hW, hwr, List.append_nil]
      k_steps
      exact ret _ _ _ _ (by k_asm) (News.drop3 (by k_asm)) ⟨so1, ks, _, _, rfl, hs1, BitsTo.all (hdl ▸ hks) hSW⟩
end Mine
end
section
open PySem PySem.W PyProof.Rows
namespace Mine
theorem Enc.dec {bs : Array UInt8} {S : List Int} (h : Enc bs S) : ∃ (bc : Nat) (cw W : List Nat), bs = beBytes 4 bc ++ (beBytes 4 cw.length ++ (flat8 cw ++ beBytes 4 0)) ∧ Codes cw W ∧ cw.length ≤ 14 ∧ (bc + 63) / 64 = W.length ∧ W.length ≤ 7 ∧ (∀ c ∈ cw, c < 2 ^ 64) ∧
    ∀ z : Int, z ∈ S ↔ ∃ i j : Nat, j < 64 ∧ z = ((64 * i + j : Nat) : Int) ∧ (W.getD i 0).testBit j = true := by
  rcases h with ⟨rfl, rfl⟩ | ⟨bc, cw, W, e, h⟩
  · refine ⟨0, [], [], by decide +kernel, .nil, by simp, by simp, by simp, by simp, fun z => ⟨fun h => (nomatch h), ?_⟩⟩
    rintro ⟨i, j, _, _, h⟩
    simp at h
  · exact ⟨bc, cw, W, by rw [e]; simp only [Array.append_assoc], h⟩
end Mine
end
section
open PySem PySem.W PyProof.Rows
namespace Mine
local macro_rules | `(tactic| walk_at "pad 0") => `(tactic| skip)
local macro_rules | `(tactic| walk_at "pad 1") => `(tactic| skip)
local macro_rules | `(tactic| walk_at "pad 2") => `(tactic| skip)
local macro_rules | `(tactic| walk_at "pad 3") => `(tactic| skip)
local macro_rules | `(tactic| walk_at "pad 4") => `(tactic| skip)
local macro_rules | `(tactic| walk_at "pad 5") => `(tactic| skip)
local macro_rules | `(tactic| walk_at "pad 6") => `(tactic| skip)
local macro_rules | `(tactic| walk_at "pad 7") => `(tactic| skip)
local macro_rules | `(tactic| walk_at "pad 8") => `(tactic| skip)
local macro_rules | `(tactic| walk_at "pad 9") => `(tactic| skip)
local macro_rules | `(tactic| walk_at "pad 10") => `(tactic| skip)
local macro_rules | `(tactic| walk_at "pad 11") => `(tactic| skip)
local macro_rules | `(tactic| walk_at "pad 12") => `(tactic| skip)
local macro_rules | `(tactic| walk_at "pad 13") => `(tactic| skip)
local macro_rules | `(tactic| walk_at "pad 14") => `(tactic| skip)
local macro_rules | `(tactic| walk_at "pad 15") => `(tactic| skip)
local macro_rules | `(tactic| walk_at "pad 16") => `(tactic| skip)
local macro_rules | `(tactic| walk_at "pad 17") => `(tactic| skip)
local macro_rules | `(tactic| walk_at "pad 18") => `(tactic| skip)
local macro_rules | `(tactic| walk_at "pad 19") => `(tactic| skip)
local macro_rules | `(tactic| walk_at "pad 20") => `(tactic| skip)
local macro_rules | `(tactic| walk_at "pad 21") => `(tactic| skip)
local macro_rules | `(tactic| walk_at "pad 22") => `(tactic| skip)
local macro_rules | `(tactic| walk_at "pad 23") => `(tactic| skip)
local macro_rules | `(tactic| walk_at "pad 24") => `(tactic| skip)
local macro_rules | `(tactic| walk_at "pad 25") => `(tactic| skip)
local macro_rules | `(tactic| walk_at "pad 26") => `(tactic| skip)
local macro_rules | `(tactic| walk_at "pad 27") => `(tactic| skip)
local macro_rules | `(tactic| walk_at "pad 28") => `(tactic| skip)
local macro_rules | `(tactic| walk_at "pad 29") => `(tactic| skip)
local macro_rules | `(tactic| walk_at "pad 30") => `(tactic| skip)
local macro_rules | `(tactic| walk_at "pad 31") => `(tactic| skip)
local macro_rules | `(tactic| walk_at "pad 32") => `(tactic| skip)
local macro_rules | `(tactic| walk_at "pad 33") => `(tactic| skip)
local macro_rules | `(tactic| walk_at "pad 34") => `(tactic| skip)
local macro_rules | `(tactic| walk_at "pad 35") => `(tactic| skip)
local macro_rules | `(tactic| walk_at "pad 36") => `(tactic| skip)
local macro_rules | `(tactic| walk_at "pad 37") => `(tactic| skip)
local macro_rules | `(tactic| walk_at "pad 38") => `(tactic| skip)
local macro_rules | `(tactic| walk_at "pad 39") => `(tactic| skip)
local macro_rules | `(tactic| walk_at "pad 40") => `(tactic| skip)
local macro_rules | `(tactic| walk_at "pad 41") => `(tactic| skip)
local macro_rules | `(tactic| walk_at "pad 42") => `(tactic| skip)
local macro_rules | `(tactic| walk_at "pad 43") => `(tactic| skip)
local macro_rules | `(tactic| walk_at "pad 44") => `(tactic| skip)
local macro_rules | `(tactic| walk_at "pad 45") => `(tactic| skip)
local macro_rules | `(tactic| k_room) => `(tactic| ktr_room)
local macro_rules | `(tactic| k_units) => `(tactic| ktr_units)
local macro_rules | `(tactic| walk_at "call type:set nil nil") => `(tactic| (k_here; k_dflt (refine setNew_N (by k_asm) (by k_asm) ?_); intro d' h' so' F' N' l1 hs'; (try k_lt l1)))
local macro_rules | `(tactic| walk_at "getMethod ref") => `(tactic| (k_here; (with_reducible show wpAny _ _ (getMethod (Value.ref _) (Str.ofString "add") _) _ _ _); k_dflt (refine' setMeth_N ?N ?a ?s ?_; (case N => k_asm); (case a => k_mem); (case s => assumption))))
local macro_rules | `(tactic| walk_at "call builtin:len") => `(tactic| (k_here; (with_reducible show wpAny _ _ (call (Value.builtin "len") [Value.ref _]) _ _ _); k_dflt (refine' setLen_N ?N ?a ?s ?_; (case N => k_asm); (case a => k_mem); (case s => assumption)); (try dsimp only)))
local macro_rules | `(tactic| walk_at "exec For") => `(tactic| (k_here; refine halt ?_))
local macro_rules | `(tactic| walk_at "exec For Name Call cons nil") => `(tactic| (k_here; refine halt ?_))
local macro_rules | `(tactic| walk_at "exec For Name Name cons nil") => `(tactic| (k_here; refine halt ?_))
local macro_rules | `(tactic| walk_at "exec For Name Attribute cons nil") => `(tactic| (k_here; refine halt ?_))
local macro_rules | `(tactic| walk_at "exec For Tuple Name cons nil") => `(tactic| (k_here; refine halt ?_))
local macro_rules | `(tactic| walk_at "exec For Tuple Call cons nil") => `(tactic| (k_here; refine halt ?_))
local macro_rules | `(tactic| walk_at "exec While") => `(tactic| (k_here; refine halt ?_))
local macro_rules | `(tactic| walk_at "call builtin:len") => `(tactic| (k_here; (with_reducible show wpAny _ _ (call (Value.builtin "len") [Value.ref _]) _ _ _); k_dflt (refine' KM.len_K ?N ?m ?s ?f ?_; (case N => k_asm); (case m => k_mem); (case s => assumption); (case f => omega)); (try dsimp only)))
local macro_rules | `(tactic| walk_at "call type:range") => `(tactic| (k_here; k_dflt (refine' range_N ?F ?N ?_; (case F => k_asm); (case N => k_asm)); intro r' h' tk' t1' u1' v1' R' F' N'; (try dsimp only)))
local macro_rules | `(tactic| walk_at "binaryOp Pow int int") => `(tactic| (k_here; (with_reducible refine natPow ?a ?_; (case a => omega)); (try dsimp only)))
local macro_rules | `(tactic| walk_at "binaryOp FloorDiv int int") => `(tactic| (k_here; (with_reducible refine natDivPow ?a ?_; (case a => omega)); (try dsimp only)))
local macro_rules | `(tactic| walk_at "binaryOp Mod int int") => `(tactic| (k_here; (with_reducible refine natMod2 ?_); (try dsimp only)))
local macro_rules | `(tactic| walk_at "call builtin:set.add") => `(tactic| (k_here; (with_reducible show wpAny _ _ (call (Value.builtin "set.add") [Value.ref _, Value.int _ _]) _ _ _); k_dflt (refine' setAdd_N ?F ?N ?U ?s ?r ?k ?_; (case F => k_asm); (case N => k_asm); (case U => k_updF); (case s => assumption); (case r => omega); (case k => assumption)); intro h' o' ks' F' N' s' p'; (try dsimp only at N')))
local macro_rules | `(tactic| walk_at "eval ListComp") => `(tactic| (k_here; refine halt ?_))
local macro_rules | `(tactic| walk_at "exec Assign cons ListComp") => `(tactic| (k_here; refine halt ?_))
local macro_rules | `(tactic| walk_at "SrcLP") => `(tactic| (k_here; refine halt ?_))
local macro_rules | `(tactic| walk_at "CompSrc") => `(tactic| (k_here; refine halt ?_))
local macro_rules | `(tactic| walk_at "CompEnd") => `(tactic| (k_here; refine halt ?_))
local macro_rules | `(tactic| walk_at "binaryOp BitXor") => `(tactic| (k_here; (with_reducible show wpAny _ _ (binaryOp _ (Value.ref _) (Value.ref _)) _ _ _); k_dflt (refine' binop_K ?k1 ?k2 ?k3 ?k4 ?k5 ?k6 ?k7 ?_; (case k1 => k_asm); (case k2 => k_asm); (case k3 => k_inst); (case k4 => k_typeOf); (case k5 => k_is); (case k6 => k_is); (case k7 => k_is); k_whole)))
local macro_rules | `(tactic| walk_at "binaryOp BitXor int int") => `(tactic| (k_here; (with_reducible refine natXor ?_); (try dsimp only)))
local macro_rules | `(tactic| walk_at "subscriptTail") => `(tactic| (k_here; (with_reducible show wpAny _ _ (subscriptTail _ _ (Value.ref _) (Value.int _ _)) _ _ _); k_dflt (refine' itemL_N ?N ?m ?i ?x ?_; (case N => k_asm); (case m => k_mem); (case x => assumption); (case i => omega))))
local macro_rules | `(tactic| walk_at "binaryOp Add ref ref") => `(tactic| (k_here; (with_reducible show wpAny _ _ (binaryOp _ (Value.ref _) (Value.ref _)) _ _ _); k_dflt (refine' addL_N ?F ?N ?a ?b ?z ?_; (case F => k_asm); (case N => k_asm); (case a => k_mem); (case b => k_mem); (case z => first | assumption | omega)); intro D' h' F' N' l1; (try k_lt l1)))
local macro_rules | `(tactic| k_mem) => `(tactic| first | ktr_member | with_reducible assumption | exact List.mem_cons_self | ((with_reducible refine List.mem_cons_of_mem _ ?_); k_mem) | ((with_reducible refine List.mem_append_left _ ?_); k_mem) | ((with_reducible refine List.mem_append_right _ ?_); k_mem))
local macro_rules | `(tactic| walk_at "call builtin:list.append") => `(tactic| (k_here; (with_reducible show wpAny _ _ (call (Value.builtin _) [Value.ref _, _]) _ _ _); k_dflt (refine' append_K ?k1 ?k2 ?k3 ?_ ?z; (case k1 => k_asm); (case k2 => k_asm); (case k3 => k_upd); (case z => exact Nat.le_trans (m := 16384) (by omega) (by decide))); intro h' F' N'))

theorem sel_step {pl ks ks' : List Int} {M i : Nat} (hi : i < pl.length) (hl : ks.length ≤ i) (hm : ∀ z, z ∈ ks ↔ ∃ j, j < i ∧ M / 2 ^ j % 2 = 1 ∧ pl[j]? = some z) (hp : List.Perm ks' (pl.getD ((i : Int)).toNat 0 :: ks)) (hb : ((M / 2 ^ i % 2 : Nat) : Int) = 1) :
    ks'.length ≤ i + 1 ∧ ∀ z, z ∈ ks' ↔ ∃ j, j < i + 1 ∧ M / 2 ^ j % 2 = 1 ∧ pl[j]? = some z := by
  refine ⟨by rw [hp.length_eq]; simpa using hl, fun z => ?_⟩
  rw [hp.mem_iff, List.mem_cons, hm]
  have e0 : pl.getD ((i : Int)).toNat 0 = pl[i] := by rw [Int.toNat_natCast, List.getD_eq_getElem?_getD, List.getElem?_eq_getElem hi, Option.getD_some]
  rw [e0]
  constructor
  · rintro (rfl | ⟨j, hj, h⟩)
    · exact ⟨i, Nat.lt_succ_self _, by omega, List.getElem?_eq_getElem hi⟩
    · exact ⟨j, by omega, h⟩
  · rintro ⟨j, hj, h, e⟩
    by_cases hji : j = i
    · subst hji; rw [List.getElem?_eq_getElem hi] at e; exact .inl (Option.some.inj e).symm
    · exact .inr ⟨j, by omega, h, e⟩
theorem sel_skip {pl ks : List Int} {M i : Nat} (hm : ∀ z, z ∈ ks ↔ ∃ j, j < i ∧ M / 2 ^ j % 2 = 1 ∧ pl[j]? = some z) (hb : ((M / 2 ^ i % 2 : Nat) : Int) ≠ 1) :
    ∀ z, z ∈ ks ↔ ∃ j, j < i + 1 ∧ M / 2 ^ j % 2 = 1 ∧ pl[j]? = some z := by
  intro z
  rw [hm]
  constructor
  · rintro ⟨j, hj, h⟩; exact ⟨j, by omega, h⟩
  · rintro ⟨j, hj, h, e⟩
    by_cases hji : j = i
    · subst hji; omega
    · exact ⟨j, by omega, h, e⟩
def lbJ (w : World) (news : List (Addr × Obj)) (m₀ : Str → Option Value) (x dx b : Addr) (t1 t2 : Tok) (pl : List Int) (M : Nat) (i : Nat) (m : Str → Option Value) (nw : List (Addr × Obj)) : Prop :=
  (∀ y, y ≠ Str.ofString "k" → m y = m₀ y) ∧ ∃ so ks c t3, nw = (b, so) :: (x, instObj 188 dx) :: (dx, bmD w.params b c t1 t2 t3) :: news ∧ SetIs w so ks ∧ ks.length ≤ i ∧ ∀ z, z ∈ ks ↔ ∃ j, j < i ∧ M / 2 ^ j % 2 = 1 ∧ pl[j]? = some z

set_option maxRecDepth 100000 in
set_option maxHeartbeats 8000000 in
theorem lb_c : ∀ (w : World) (pa : Addr) (vs : Array Value) (n0 : Nat) (pl : List Int) (M : Nat) (t : Tok), IntsAre vs.toList pl → pl.length ≤ 6 → pl.Nodup → M < 2 ^ 6 →
    Calls w 30 300 204 [.ref pa, .int M t] (fun news => (pa, listOf vs n0) ∈ news) (BMnew w (sel pl M)) := by
  unfold Calls
  k_fill
  intro w pa vs n0 pl M t hvs hpl hnd hM mean mg mb dp un gd cn cs a ccd cl outer A₀ base h₀ L m news s Q E B F X N T hk hdp hun hpa ret
  have hsz : vs.size = pl.length := by rw [← Array.length_toList]; exact hvs.length
  refine wpAny_call ?_
  k_dflt ktr_enter
  k_steps
  unfold Halt
  refine For_range0F (by k_asm) rfl ?_
  k_steps
  unfold Halt
  refine ⟨_, _, _, _, _, _, _, lbJ w _ _ _ _ _ _ _ pl M, rfl, by k_asm, by k_asm, by assumption, by omega, ⟨fun _ _ => rfl, _, _, _, _, rfl, by assumption, Nat.le_refl _, ?_⟩, ?_, ?_⟩
  · intro z; simp
  · rintro i tk' I m₁ nw oI h tk hi ⟨hm, so, ks, c, t3, rfl, hs, hl, hmem⟩ F₁ N₁ off₁
    have hkn : pl.getD ((i : Int)).toNat 0 ∉ ks := by
      intro hz
      obtain ⟨j, hj, _, e⟩ := (hmem _).1 hz
      have hi' : i < pl.length := by omega
      rw [Int.toNat_natCast, List.getD_eq_getElem?_getD, List.getElem?_eq_getElem hi', Option.getD_some] at e
      have hj' : j < pl.length := by omega
      rw [List.getElem?_eq_getElem hj'] at e
      exact absurd ((List.getElem_inj hnd).1 (Option.some.inj e)) (by omega)
    have off := off₁
    simp only [List.forall_mem_cons] at off
    obtain ⟨off1, off2, off3, off4⟩ := off
    replace off1 := neN off1; replace off2 := neN off2; replace off3 := neN off3
    k_dflt (refine asgL F₁ N₁ hm ?_)
    intro h' F' N'
    k_steps
    · refine' ForEnd.next ?F ?N ?sub ?off ?J
      case F => k_asm
      case N => k_asm
      case sub => exact fun _ h => h
      case off => simp only [List.forall_mem_cons]; exact ⟨off1, off2, off3, off4⟩
      case J => exact ⟨fun y hy => if_neg hy, _, _, _, _, rfl, by assumption, (sel_step (by omega) hl hmem (by assumption) (by assumption)).1, (sel_step (by omega) hl hmem (by assumption) (by assumption)).2⟩
    · refine' ForEnd.next ?F2 ?N2 ?sub2 ?off2 ?J2
      case F2 => k_asm
      case N2 => k_asm
      case sub2 => exact fun _ h => h
      case off2 => simp only [List.forall_mem_cons]; exact ⟨off1, off2, off3, off4⟩
      case J2 => exact ⟨fun y hy => if_neg hy, _, _, _, _, rfl, hs, by omega, sel_skip hmem (by assumption)⟩
  · rintro m' nw h tk ⟨hm, so, ks, c, t3, rfl, hs, hl, hmem⟩ F₁ N₁
    have F₂ := Fr.at1 F₁ hm
    clear F₁
    k_steps
    refine ret _ _ _ _ (by k_asm) (by k_asm) ⟨_, _, _, _, _, _, _, _, _, rfl, rfl, (by assumption), (by omega), (by omega), hs, fun z => ?_⟩
    rw [hmem, mem_sel]
    constructor
    · rintro ⟨j, _, h⟩; exact ⟨j, h⟩
    · rintro ⟨j, h, e⟩; exact ⟨j, (List.getElem?_eq_some_iff.mp e).1, h, e⟩
end Mine
end
section
open PySem PySem.W PyProof.Rows
namespace Mine
local macro_rules | `(tactic| walk_at "pad 0") => `(tactic| skip)
local macro_rules | `(tactic| walk_at "pad 1") => `(tactic| skip)
local macro_rules | `(tactic| walk_at "pad 2") => `(tactic| skip)
local macro_rules | `(tactic| walk_at "pad 3") => `(tactic| skip)
local macro_rules | `(tactic| walk_at "pad 4") => `(tactic| skip)
local macro_rules | `(tactic| walk_at "pad 5") => `(tactic| skip)
local macro_rules | `(tactic| walk_at "pad 6") => `(tactic| skip)
local macro_rules | `(tactic| walk_at "pad 7") => `(tactic| skip)
local macro_rules | `(tactic| walk_at "pad 8") => `(tactic| skip)
local macro_rules | `(tactic| walk_at "pad 9") => `(tactic| skip)
local macro_rules | `(tactic| walk_at "pad 10") => `(tactic| skip)
local macro_rules | `(tactic| walk_at "pad 11") => `(tactic| skip)
local macro_rules | `(tactic| walk_at "pad 12") => `(tactic| skip)
local macro_rules | `(tactic| walk_at "pad 13") => `(tactic| skip)
local macro_rules | `(tactic| walk_at "pad 14") => `(tactic| skip)
local macro_rules | `(tactic| walk_at "pad 15") => `(tactic| skip)
local macro_rules | `(tactic| walk_at "pad 16") => `(tactic| skip)
local macro_rules | `(tactic| walk_at "pad 17") => `(tactic| skip)
local macro_rules | `(tactic| walk_at "pad 18") => `(tactic| skip)
local macro_rules | `(tactic| walk_at "pad 19") => `(tactic| skip)
local macro_rules | `(tactic| walk_at "pad 20") => `(tactic| skip)
local macro_rules | `(tactic| walk_at "pad 21") => `(tactic| skip)
local macro_rules | `(tactic| walk_at "pad 22") => `(tactic| skip)
local macro_rules | `(tactic| walk_at "pad 23") => `(tactic| skip)
local macro_rules | `(tactic| walk_at "pad 24") => `(tactic| skip)
local macro_rules | `(tactic| walk_at "pad 25") => `(tactic| skip)
local macro_rules | `(tactic| walk_at "pad 26") => `(tactic| skip)
local macro_rules | `(tactic| walk_at "pad 27") => `(tactic| skip)
local macro_rules | `(tactic| walk_at "pad 28") => `(tactic| skip)
local macro_rules | `(tactic| walk_at "pad 29") => `(tactic| skip)
local macro_rules | `(tactic| walk_at "pad 30") => `(tactic| skip)
local macro_rules | `(tactic| walk_at "pad 31") => `(tactic| skip)
local macro_rules | `(tactic| walk_at "pad 32") => `(tactic| skip)
local macro_rules | `(tactic| walk_at "pad 33") => `(tactic| skip)
local macro_rules | `(tactic| walk_at "pad 34") => `(tactic| skip)
local macro_rules | `(tactic| walk_at "pad 35") => `(tactic| skip)
local macro_rules | `(tactic| walk_at "pad 36") => `(tactic| skip)
local macro_rules | `(tactic| walk_at "pad 37") => `(tactic| skip)
local macro_rules | `(tactic| walk_at "pad 38") => `(tactic| skip)
local macro_rules | `(tactic| walk_at "pad 39") => `(tactic| skip)
local macro_rules | `(tactic| walk_at "pad 40") => `(tactic| skip)
local macro_rules | `(tactic| walk_at "pad 41") => `(tactic| skip)
local macro_rules | `(tactic| walk_at "pad 42") => `(tactic| skip)
local macro_rules | `(tactic| walk_at "pad 43") => `(tactic| skip)
local macro_rules | `(tactic| walk_at "pad 44") => `(tactic| skip)
local macro_rules | `(tactic| walk_at "pad 45") => `(tactic| skip)
local macro_rules | `(tactic| walk_at "pad 46") => `(tactic| skip)
local macro_rules | `(tactic| k_room) => `(tactic| ktr_room)
local macro_rules | `(tactic| k_units) => `(tactic| ktr_units)
local macro_rules | `(tactic| walk_at "call type:set nil nil") => `(tactic| (k_here; k_dflt (refine setNew_N (by k_asm) (by k_asm) ?_); intro d' h' so' F' N' l1 hs'; (try k_lt l1)))
local macro_rules | `(tactic| walk_at "getMethod ref") => `(tactic| (k_here; (with_reducible show wpAny _ _ (getMethod (Value.ref _) (Str.ofString "add") _) _ _ _); k_dflt (refine' setMeth_N ?N ?a ?s ?_; (case N => k_asm); (case a => k_mem); (case s => assumption))))
local macro_rules | `(tactic| walk_at "call builtin:len") => `(tactic| (k_here; (with_reducible show wpAny _ _ (call (Value.builtin "len") [Value.ref _]) _ _ _); k_dflt (refine' setLen_N ?N ?a ?s ?_; (case N => k_asm); (case a => k_mem); (case s => assumption)); (try dsimp only)))
local macro_rules | `(tactic| walk_at "exec For") => `(tactic| (k_here; refine halt ?_))
local macro_rules | `(tactic| walk_at "exec For Name Call cons nil") => `(tactic| (k_here; refine halt ?_))
local macro_rules | `(tactic| walk_at "exec For Name Name cons nil") => `(tactic| (k_here; refine halt ?_))
local macro_rules | `(tactic| walk_at "exec For Name Attribute cons nil") => `(tactic| (k_here; refine halt ?_))
local macro_rules | `(tactic| walk_at "exec For Tuple Name cons nil") => `(tactic| (k_here; refine halt ?_))
local macro_rules | `(tactic| walk_at "exec For Tuple Call cons nil") => `(tactic| (k_here; refine halt ?_))
local macro_rules | `(tactic| walk_at "exec While") => `(tactic| (k_here; refine halt ?_))
local macro_rules | `(tactic| walk_at "call builtin:len") => `(tactic| (k_here; (with_reducible show wpAny _ _ (call (Value.builtin "len") [Value.ref _]) _ _ _); k_dflt (refine' KM.len_K ?N ?m ?s ?f ?_; (case N => k_asm); (case m => k_mem); (case s => assumption); (case f => omega)); (try dsimp only)))
local macro_rules | `(tactic| walk_at "call type:range") => `(tactic| (k_here; k_dflt (refine' range_N ?F ?N ?_; (case F => k_asm); (case N => k_asm)); intro r' h' tk' t1' u1' v1' R' F' N'; (try dsimp only)))
local macro_rules | `(tactic| walk_at "binaryOp Pow int int") => `(tactic| (k_here; (with_reducible refine natPow ?a ?_; (case a => omega)); (try dsimp only)))
local macro_rules | `(tactic| walk_at "binaryOp FloorDiv int int") => `(tactic| (k_here; (with_reducible refine natDivPow ?a ?_; (case a => omega)); (try dsimp only)))
local macro_rules | `(tactic| walk_at "binaryOp Mod int int") => `(tactic| (k_here; k_dflt (refine natMod (b := 2) ?a ?_; (case a => decide)); (try dsimp only)))
local macro_rules | `(tactic| walk_at "call builtin:set.add") => `(tactic| (k_here; (with_reducible show wpAny _ _ (call (Value.builtin "set.add") [Value.ref _, Value.int _ _]) _ _ _); k_dflt (refine' setAdd_N ?F ?N ?U ?s ?r ?k ?_; (case F => k_asm); (case N => k_asm); (case U => k_updF); (case s => assumption); (case r => omega); (case k => assumption)); intro h' o' ks' F' N' s' p'; (try dsimp only at N')))
local macro_rules | `(tactic| walk_at "eval ListComp") => `(tactic| (k_here; refine halt ?_))
local macro_rules | `(tactic| walk_at "exec Assign cons ListComp") => `(tactic| (k_here; refine halt ?_))
local macro_rules | `(tactic| walk_at "SrcLP") => `(tactic| (k_here; refine halt ?_))
local macro_rules | `(tactic| walk_at "CompSrc") => `(tactic| (k_here; refine halt ?_))
local macro_rules | `(tactic| walk_at "CompEnd") => `(tactic| (k_here; refine halt ?_))
local macro_rules | `(tactic| walk_at "binaryOp BitXor") => `(tactic| (k_here; (with_reducible show wpAny _ _ (binaryOp _ (Value.ref _) (Value.ref _)) _ _ _); k_dflt (refine' binop_K ?k1 ?k2 ?k3 ?k4 ?k5 ?k6 ?k7 ?_; (case k1 => k_asm); (case k2 => k_asm); (case k3 => k_inst); (case k4 => k_typeOf); (case k5 => k_is); (case k6 => k_is); (case k7 => k_is); k_whole)))
local macro_rules | `(tactic| walk_at "binaryOp BitXor int int") => `(tactic| (k_here; (with_reducible refine natXor ?_); (try dsimp only)))
local macro_rules | `(tactic| walk_at "subscriptTail") => `(tactic| (k_here; (with_reducible show wpAny _ _ (subscriptTail _ _ (Value.ref _) (Value.int _ _)) _ _ _); k_dflt (refine' itemL_N ?N ?m ?i ?x ?_; (case N => k_asm); (case m => k_mem); (case x => assumption); (case i => omega))))
local macro_rules | `(tactic| walk_at "binaryOp Add ref ref") => `(tactic| (k_here; (with_reducible show wpAny _ _ (binaryOp _ (Value.ref _) (Value.ref _)) _ _ _); k_dflt (refine' addL_N ?F ?N ?a ?b ?z ?_; (case F => k_asm); (case N => k_asm); (case a => k_mem); (case b => k_mem); (case z => first | assumption | omega)); intro D' h' F' N' l1; (try k_lt l1)))
local macro_rules | `(tactic| k_mem) => `(tactic| first | ktr_member | with_reducible assumption | exact List.mem_cons_self | ((with_reducible refine List.mem_cons_of_mem _ ?_); k_mem) | ((with_reducible refine List.mem_append_left _ ?_); k_mem) | ((with_reducible refine List.mem_append_right _ ?_); k_mem))

def laJ (w : World) (pl : List Int) (ms : List Nat) (m₀ : Str → Option Value) (ck cm cs : Addr) (om os : Obj) (news : List (Addr × Obj)) (i : Nat) (m : Str → Option Value) (nw : List (Addr × Obj)) : Prop :=
  (∀ y, y ≠ Str.ofString "words" → m y = m₀ y) ∧ ∃ tl wa its nn ok vk, m (Str.ofString "words") = some (.ref wa) ∧ nw = tl ++ (ck, ok) :: (cm, om) :: (cs, os) :: news ∧ ok.data = .cell vk ∧
    (∀ p ∈ tl, @LT.lt Nat _ ck p.1 ∧ ∀ q ∈ news, @LT.lt Nat _ q.1 p.1) ∧ (wa, listOf its nn) ∈ tl ∧ PairsAre w pl tl its (allM (ms.take i))
def lcJ (w : World) (pl : List Int) (base : List (Addr × Obj)) (mk : Nat) (Ws : List Nat) (i : Nat) (ys : List Value) (nw : List (Addr × Obj)) : Prop :=
  ∃ tl, nw = tl ++ base ∧ (∀ p ∈ tl, ∀ q ∈ base, @LT.lt Nat _ q.1 p.1) ∧ PairsAre w pl tl ys.toArray ((Ws.take i).map (fun x => x ^^^ mk))

local macro_rules | `(tactic| walk_at "call ref") => `(tactic| (k_here; (with_reducible show wpAny _ _ (call (Value.ref 171) _) _ _ _); refine halt ?_))

set_option maxRecDepth 100000 in
set_option maxHeartbeats 800000 in
theorem la_c : ∀ (w : World) (sa ma : Addr) (vs mvs : Array Value) (n0 n1 : Nat) (pl : List Int) (ms : List Nat), pl.length ≤ 6 → pl.Nodup → ms.length ≤ 6 → (∀ M ∈ ms, M < 2 ^ 6) → MasksAre mvs ms → 
    Calls w 60 600 209 [.ref sa, .ref ma] (fun news => (sa, listOf vs n0) ∈ news ∧ (ma, listOf mvs n1) ∈ news ∧ SetsAre w pl news vs ms) 
      (fun news news' r => ∃ tl wa its nn, r = .ref wa ∧ news' = tl ++ news ∧ (∀ p ∈ tl, ∀ q ∈ news, @LT.lt Nat _ q.1 p.1) ∧ (wa, listOf its nn) ∈ tl ∧ PairsAre w pl tl its (allM ms)) := by
  unfold Calls
  k_fill
  intro w sa ma vs mvs n0 n1 pl ms hpl hnd hms hM hmv mean mg mb dp un gd cn cs a ccd cl outer A₀ base h₀ L m news s Q E B F X N T hk hdp hun ⟨hsa, hma, hsets⟩ ret
  have hsz : vs.size = ms.length := hsets.1
  refine wpAny_call ?_
  k_dflt (refine' code_defC ?k1 ?k2 ?k3 ?k4 ?k5 ?kA ?kF ?kK ?k6 ?k7 ?k8 ?k9 ?kB ?kD ?_ ?c2 ?c3 ?c4)
  (case kA => exact rfl)
  (case kF => exact rfl)
  (case kK => assumption)
  (case k1 => k_asm)
  (case k2 => k_asm)
  (case k3 => k_asm)
  (case k4 => k_asm)
  (case k5 => k_asm)
  (case k6 => k_is)
  (case k7 => k_is)
  (case k8 => k_room)
  (case k9 => exact BindsTo.of_eq rfl)
  (case kB => exact rfl)
  (case kD => decide +kernel)
  (case c2 => exact rfl)
  (case c3 => exact rfl)
  (case c4 => exact rfl)
  intro g' L' h' tk' cells' FG' F' N' Y' B' X' T' l1
  have hnL : ∀ p ∈ news, @LT.lt Nat _ p.1 L' := l1
  (try k_lt l1)
  k_dflt (k_cells Y')
  rename_i o1 o2 o3 d1 d2 d3
  replace d1 : o1.data = Data.cell none := d1
  replace d2 : o2.data = Data.cell (some (.ref ma)) := d2
  replace d3 : o3.data = Data.cell (some (.ref sa)) := d3
  (try simp only [List.cons_append, List.nil_append] at N')
  (try dsimp only)
  (try k_fold)
  k_steps
  unfold Halt
  refine For_range0F (by k_asm) rfl ?_
  k_steps
  unfold Halt
  refine ⟨_, _, _, _, _, _, _, laJ w pl ms _ (L' + 1 + 1 + 1) (L' + 1 + 1) (L' + 1) o2 o3 news, rfl, by k_asm, by k_asm, by assumption, by omega, ⟨fun _ _ => rfl, [_, _, _, _, _], _, _, _, o1, none, rfl, rfl, d1, ?_, List.Mem.head _, ?_⟩, ?_, ?_⟩
  · intro p hp
    simp only [List.mem_cons, List.not_mem_nil, or_false] at hp
    rcases hp with rfl | rfl | rfl | rfl | rfl <;> exact ⟨by (try dsimp only); omega, fun q hq => by have := hnL q hq; (try dsimp only); omega⟩
  · refine PairsAre.one (List.mem_cons_of_mem _ List.mem_cons_self) rfl rfl ⟨_, _, _, _, _, _, _, _, rfl, by k_mem, by k_mem, by k_mem, by assumption, fun z => by rw [sel_zero]⟩
  · rintro i tk' I m₁ nw oI h tk hi ⟨hm, tl, wa, its, nn, ok, vk, hw, rfl, hok, htl, hwa, hP⟩ F₁ N₁ off₁
    have F₂ := Fr.at1 F₁ hm
    rw [hw] at F₂
    clear F₁ hm hw
    have offc := neN (off₁ _ (List.mem_append_right _ (.head _)))
    k_dflt (refine wpAny_assign_Name (storeX_C (c := L' + 1 + 1 + 1) F₂ N₁ rfl (UpdF.tail ?_ (updF_app ?_ (UpdF.head ?_))) hok ?_))
    · exact fun e => offc e.symm
    · exact fun p hp e => absurd (htl p hp).1 (by rw [e]; exact Nat.lt_irrefl _)
    · refine List.forall_mem_cons.mpr ⟨neN (by dsimp only; omega), List.forall_mem_cons.mpr ⟨neN (by dsimp only; omega), fun p hp => neN ?_⟩⟩
      have : @LT.lt Nat _ p.1 L' := hnL p hp
      omega
    intro h' o' F' N' d'
    (try dsimp only at N')
    clear N₁ F₂
    k_steps
    unfold Halt
    k_dflt (refine LCp.ListComp_P (F₀ := by k_asm) (by with_unfolding_all rfl) (by decide) (by rfl) (by decide) (by rfl) (by rfl) (by decide) ?_)
    k_steps
    unfold Halt
    have hlen : its.size = (allM (ms.take i)).length := hP.1
    have hsz64 : its.size ≤ 64 := by
      rw [hlen, allM_len]
      exact Nat.le_trans (Nat.pow_le_pow_right (by decide) (by rw [List.length_take]; omega)) (show 2 ^ 6 ≤ 64 by decide)
    have hi' : i < ms.length := by omega
    refine LCp.SrcLP.ledger rfl (by k_asm) (by k_asm) (by k_mem) (Nat.le_trans hsz64 (by decide)) ?_
    intro g'
    obtain ⟨vi, hvi⟩ : ∃ v, vs[i]? = some v := ⟨_, Array.getElem?_eq_getElem (by omega)⟩
    obtain ⟨mvi, hmvi⟩ : ∃ v, mvs[i]? = some v := ⟨_, Array.getElem?_eq_getElem (by rw [hmv.1]; omega)⟩
    obtain ⟨bi, hbi⟩ := hsets.2 i vi ms[i] hvi (List.getElem?_eq_getElem hi')
    obtain ⟨tmi, rfl⟩ := hmv.2 i mvi ms[i] hmvi (List.getElem?_eq_getElem hi')
    obtain ⟨yi, hyi⟩ : ∃ y, vi = .ref y := by obtain ⟨y, _, _, _, _, _, _, _, e, _⟩ := hbi; exact ⟨y, e⟩
    subst hyi
    refine compP_ind (lcJ w pl _ ms[i] (allM (ms.take i))) ⟨[], rfl, (fun _ h => nomatch h), rfl, fun _ _ _ h => (nomatch h)⟩ ?_ ?_
    · rintro ys nw ⟨tl', rfl, htl', hP'⟩
      intro D h3 tk3 F3 N3 off1
      have hys : its.size + ys.toArray.size ≤ 16384 := by
        have := hP'.1
        rw [List.length_map, List.length_take] at this
        omega
      k_dflt (refine addL_N F3 N3 (its := its) (its2 := ys.toArray) (n := nn) (n2 := ys.length) (by k_mem) List.mem_cons_self hys ?_)
      intro D8 h8 F8 N8 l8
      k_steps
      refine' ForEnd.next ?F ?N ?sub ?off ?J
      case F => k_asm
      case N => k_asm
      case sub => exact sub_lift
      case off =>
        intro p hp
        rcases List.mem_append.mp hp with hp | hp
        · rcases List.mem_cons.mp hp with rfl | hp
          · exact fun e => absurd (l8 (I, oI) (by k_mem)) (by rw [← e]; exact Nat.lt_irrefl _)
          · rcases List.mem_append.mp hp with hp | hp
            · exact fun e => absurd (htl' p hp (I, oI) List.mem_cons_self) (by rw [e]; exact Nat.lt_irrefl _)
            · exact off₁ p (List.mem_append_left _ hp)
        · rcases List.mem_cons.mp hp with rfl | hp
          · exact fun e => offc e
          · exact off₁ p (List.mem_append_right _ (List.mem_cons_of_mem _ hp))
      case J =>
        refine ⟨fun y hy => (if_neg hy).trans (if_neg hy), _ :: (tl' ++ tl), _, _, _, _, _, if_pos rfl, rfl, d', ?bd, List.mem_cons_self, ?pr⟩
        case bd =>
          refine List.forall_mem_cons.mpr ⟨⟨l8 (L' + 1 + 1 + 1, o') (by k_mem), fun q hq => l8 q (by k_mem)⟩, fun p hp => ?_⟩
          rcases List.mem_append.mp hp with hp | hp
          · exact ⟨htl' p hp (L' + 1 + 1 + 1, o') (by k_mem), fun q hq => htl' p hp q (by k_mem)⟩
          · exact htl p hp
        case pr =>
          rw [show ms.take (i + 1) = ms.take i ++ [ms[i]] from by rw [List.take_add_one, List.getElem?_eq_getElem hi']; rfl, allM_snoc]
          rw [hlen, List.take_length] at hP'
          exact (hP.mono fun p hp => List.mem_cons_of_mem _ (List.mem_append_right _ hp)).app (hP'.mono fun p hp => List.mem_cons_of_mem _ (List.mem_append_left _ hp))
    · rintro j ys nw v hj ⟨tl', rfl, htl', hP'⟩ hv
      obtain ⟨W, hW⟩ : ∃ W, (allM (ms.take i))[j]? = some W := ⟨_, List.getElem?_eq_getElem (by omega)⟩
      obtain ⟨t, ot, bv, tkk, nt, b, rfl, hmem, hcls, hdata, hBM⟩ := hP.2 j v W hv hW
      obtain ⟨x, hx⟩ : ∃ y, bv = .ref y := by obtain ⟨y, _, _, _, _, _, _, _, e, _⟩ := hBM; exact ⟨y, e⟩
      subst hx
      refine ⟨t, ot, .ref x, .int (W : Nat) tkk, nt, rfl, by k_mem, hcls, hdata, ?_⟩
      intro I2 oI2 C oC D m₂ h2 tk2 E' hns hx1 hx2 F3 N3 off3 ne
      have hB1 := BM.mono (news' := (I2, oI2) :: (C, oC) :: (D, LCg.lst ys) :: (tl' ++ (I, oI) :: (tl ++ (L' + 1 + 1 + 1, o') :: (L' + 1 + 1, o2) :: (L' + 1, o3) :: news))) hBM fun p hp => List.mem_cons_of_mem _ (List.mem_cons_of_mem _ (List.mem_cons_of_mem _ (List.mem_append_right _ (List.mem_cons_of_mem _ (List.mem_append_left _ hp)))))
      have hB2 := BM.mono (news' := (I2, oI2) :: (C, oC) :: (D, LCg.lst ys) :: (tl' ++ (I, oI) :: (tl ++ (L' + 1 + 1 + 1, o') :: (L' + 1 + 1, o2) :: (L' + 1, o3) :: news))) hbi fun p hp => List.mem_cons_of_mem _ (List.mem_cons_of_mem _ (List.mem_cons_of_mem _ (List.mem_append_right _ (List.mem_cons_of_mem _ (List.mem_append_right _ (List.mem_cons_of_mem _ (List.mem_cons_of_mem _ (List.mem_cons_of_mem _ hp))))))))
      obtain ⟨_, dx1, _, _, _, _, _, _, e1, hm1, hm1', _⟩ := id hB1
      cases e1
      obtain ⟨_, dx2, _, _, _, _, _, _, e2, hm2, hm2', _⟩ := id hB2
      cases e2
      k_steps
      unfold Halt
      k_dflt (refine' Calls.use (xor_sel ?hpl ?hn) ?B ?F ?X ?N ?T ?hk ?dp ?un ?pre ?_)
      (case B => k_asm)
      (case F => k_asm)
      (case X => k_asm)
      (case N => k_asm)
      (case T => k_asm)
      (case hk => rfl)
      (case pre => exact ⟨hB1, hB2⟩)
      (case hpl => assumption)
      (case hn => assumption)
      (case dp => k_room)
      (case un => k_units)
      rintro r9 news9 h9 tk9 F9 N9 ⟨z9, dz9, b9, c9, u1, u2, u3, sz9, kz9, rfl, rfl, l1, l2, l3, s9, m9⟩
      have l1' := l1
      (try k_lt l1)
      dsimp only [PySem.W.CmpBack]
      k_steps
      unfold Halt
      rename_i D9 h10 F10 N10 l10
      have hdn : ∀ q ∈ (I, oI) :: (tl ++ (L' + 1 + 1 + 1, o') :: (L' + 1 + 1, o2) :: (L' + 1, o3) :: news), @LT.lt Nat _ q.1 dz9 := fun q hq => l1' q (List.mem_cons_of_mem _ (List.mem_cons_of_mem _ (List.mem_cons_of_mem _ (List.mem_append_right _ hq))))
      have hDb : @LT.lt Nat _ b9 D9 := l10.1
      refine LCg.CompEnd.intro F10 N10 _ sub_rot ⟨⟨?_, ?_, ?_⟩, ⟨?_, ?_, ?_⟩, ⟨?_, ?_, ?_⟩, ⟨?_, ?_, ?_⟩, off3⟩ (.inr ⟨listOf its nn, by k_mem, rfl, nn, rfl⟩) ⟨_ :: _ :: _ :: _ :: tl', rfl, ?bd, ?pr⟩
      case bd =>
        exact List.forall_mem_cons.mpr ⟨fun q hq => by have := hdn q hq; dsimp only; omega, List.forall_mem_cons.mpr ⟨fun q hq => by have := hdn q hq; dsimp only; omega, List.forall_mem_cons.mpr ⟨fun q hq => by have := hdn q hq; dsimp only; omega, List.forall_mem_cons.mpr ⟨hdn, htl'⟩⟩⟩⟩
      case pr =>
        exact PairsAre.snoc hW (hP'.mono fun p hp => List.mem_cons_of_mem _ (List.mem_cons_of_mem _ (List.mem_cons_of_mem _ (List.mem_cons_of_mem _ hp)))) (PairsAre.one (List.mem_cons_self) rfl rfl ⟨z9, dz9, c9, u1, u2, u3, sz9, kz9, rfl, by k_mem, by k_mem, by k_mem, s9, m9⟩)
      all_goals k_ne
  · rintro m' nw h tk ⟨hm, tl, wa, its, nn, o3, v3, hw, rfl, ho3, htl, hwa, hP⟩ F₁ N₁
    have F₂ := Fr.at1 F₁ hm
    rw [hw] at F₂
    clear F₁ hm hw
    k_steps
    rw [List.take_length] at hP
    refine ret _ _ _ _ (by k_asm) (News.sub' (by k_asm) ?_) ⟨tl, wa, its, nn, rfl, rfl, fun p hp => (htl p hp).2, hwa, hP⟩
    intro p hp
    rcases List.mem_append.mp hp with hp | hp
    · exact List.mem_append_left _ hp
    · exact List.mem_append_right _ (List.mem_cons_of_mem _ (List.mem_cons_of_mem _ (List.mem_cons_of_mem _ hp)))
end Mine
end
section
open PySem PySem.W PyProof.Rows
namespace Mine
local macro_rules | `(tactic| walk_at "pad 0") => `(tactic| skip)
local macro_rules | `(tactic| walk_at "pad 1") => `(tactic| skip)
local macro_rules | `(tactic| walk_at "pad 2") => `(tactic| skip)
local macro_rules | `(tactic| walk_at "pad 3") => `(tactic| skip)
local macro_rules | `(tactic| walk_at "pad 4") => `(tactic| skip)
local macro_rules | `(tactic| walk_at "pad 5") => `(tactic| skip)
local macro_rules | `(tactic| walk_at "pad 6") => `(tactic| skip)
local macro_rules | `(tactic| walk_at "pad 7") => `(tactic| skip)
local macro_rules | `(tactic| walk_at "pad 8") => `(tactic| skip)
local macro_rules | `(tactic| walk_at "pad 9") => `(tactic| skip)
local macro_rules | `(tactic| walk_at "pad 10") => `(tactic| skip)
local macro_rules | `(tactic| walk_at "pad 11") => `(tactic| skip)
local macro_rules | `(tactic| walk_at "pad 12") => `(tactic| skip)
local macro_rules | `(tactic| walk_at "pad 13") => `(tactic| skip)
local macro_rules | `(tactic| walk_at "pad 14") => `(tactic| skip)
local macro_rules | `(tactic| walk_at "pad 15") => `(tactic| skip)
local macro_rules | `(tactic| walk_at "pad 16") => `(tactic| skip)
local macro_rules | `(tactic| walk_at "pad 17") => `(tactic| skip)
local macro_rules | `(tactic| walk_at "pad 18") => `(tactic| skip)
local macro_rules | `(tactic| walk_at "pad 19") => `(tactic| skip)
local macro_rules | `(tactic| walk_at "pad 20") => `(tactic| skip)
local macro_rules | `(tactic| walk_at "pad 21") => `(tactic| skip)
local macro_rules | `(tactic| walk_at "pad 22") => `(tactic| skip)
local macro_rules | `(tactic| walk_at "pad 23") => `(tactic| skip)
local macro_rules | `(tactic| walk_at "pad 24") => `(tactic| skip)
local macro_rules | `(tactic| walk_at "pad 25") => `(tactic| skip)
local macro_rules | `(tactic| walk_at "pad 26") => `(tactic| skip)
local macro_rules | `(tactic| walk_at "pad 27") => `(tactic| skip)
local macro_rules | `(tactic| walk_at "pad 28") => `(tactic| skip)
local macro_rules | `(tactic| walk_at "pad 29") => `(tactic| skip)
local macro_rules | `(tactic| walk_at "pad 30") => `(tactic| skip)
local macro_rules | `(tactic| walk_at "pad 31") => `(tactic| skip)
local macro_rules | `(tactic| walk_at "pad 32") => `(tactic| skip)
local macro_rules | `(tactic| walk_at "pad 33") => `(tactic| skip)
local macro_rules | `(tactic| walk_at "pad 34") => `(tactic| skip)
local macro_rules | `(tactic| walk_at "pad 35") => `(tactic| skip)
local macro_rules | `(tactic| walk_at "pad 36") => `(tactic| skip)
local macro_rules | `(tactic| walk_at "pad 37") => `(tactic| skip)
local macro_rules | `(tactic| walk_at "pad 38") => `(tactic| skip)
local macro_rules | `(tactic| walk_at "pad 39") => `(tactic| skip)
local macro_rules | `(tactic| walk_at "pad 40") => `(tactic| skip)
local macro_rules | `(tactic| walk_at "pad 41") => `(tactic| skip)
local macro_rules | `(tactic| walk_at "pad 42") => `(tactic| skip)
local macro_rules | `(tactic| walk_at "pad 43") => `(tactic| skip)
local macro_rules | `(tactic| walk_at "pad 44") => `(tactic| skip)
local macro_rules | `(tactic| walk_at "pad 45") => `(tactic| skip)
local macro_rules | `(tactic| walk_at "pad 46") => `(tactic| skip)
local macro_rules | `(tactic| walk_at "pad 47") => `(tactic| skip)
local macro_rules | `(tactic| k_room) => `(tactic| ktr_room)
local macro_rules | `(tactic| k_units) => `(tactic| ktr_units)
local macro_rules | `(tactic| walk_at "call type:set nil nil") => `(tactic| (k_here; k_dflt (refine setNew_N (by k_asm) (by k_asm) ?_); intro d' h' so' F' N' l1 hs'; (try k_lt l1)))
local macro_rules | `(tactic| walk_at "getMethod ref") => `(tactic| (k_here; (with_reducible show wpAny _ _ (getMethod (Value.ref _) (Str.ofString "add") _) _ _ _); k_dflt (refine' setMeth_N ?N ?a ?s ?_; (case N => k_asm); (case a => k_mem); (case s => assumption))))
local macro_rules | `(tactic| walk_at "call builtin:len") => `(tactic| (k_here; (with_reducible show wpAny _ _ (call (Value.builtin "len") [Value.ref _]) _ _ _); k_dflt (refine' setLen_N ?N ?a ?s ?_; (case N => k_asm); (case a => k_mem); (case s => assumption)); (try dsimp only)))
local macro_rules | `(tactic| walk_at "exec For") => `(tactic| (k_here; refine halt ?_))
local macro_rules | `(tactic| walk_at "exec For Name Call cons nil") => `(tactic| (k_here; refine halt ?_))
local macro_rules | `(tactic| walk_at "exec For Name Name cons nil") => `(tactic| (k_here; refine halt ?_))
local macro_rules | `(tactic| walk_at "exec For Name Attribute cons nil") => `(tactic| (k_here; refine halt ?_))
local macro_rules | `(tactic| walk_at "exec For Tuple Name cons nil") => `(tactic| (k_here; refine halt ?_))
local macro_rules | `(tactic| walk_at "exec For Tuple Call cons nil") => `(tactic| (k_here; refine halt ?_))
local macro_rules | `(tactic| walk_at "exec While") => `(tactic| (k_here; refine halt ?_))
local macro_rules | `(tactic| walk_at "call builtin:len") => `(tactic| (k_here; (with_reducible show wpAny _ _ (call (Value.builtin "len") [Value.ref _]) _ _ _); k_dflt (refine' KM.len_K ?N ?m ?s ?f ?_; (case N => k_asm); (case m => k_mem); (case s => assumption); (case f => omega)); (try dsimp only)))
local macro_rules | `(tactic| walk_at "call type:range") => `(tactic| (k_here; k_dflt (refine' range_N ?F ?N ?_; (case F => k_asm); (case N => k_asm)); intro r' h' tk' t1' u1' v1' R' F' N'; (try dsimp only)))
local macro_rules | `(tactic| walk_at "binaryOp Pow int int") => `(tactic| (k_here; (with_reducible refine natPow ?a ?_; (case a => omega)); (try dsimp only)))
local macro_rules | `(tactic| walk_at "binaryOp FloorDiv int int") => `(tactic| (k_here; (with_reducible refine natDivPow ?a ?_; (case a => omega)); (try dsimp only)))
local macro_rules | `(tactic| walk_at "binaryOp Mod int int") => `(tactic| (k_here; (with_reducible refine natMod2 ?_); (try dsimp only)))
local macro_rules | `(tactic| walk_at "call builtin:set.add") => `(tactic| (k_here; (with_reducible show wpAny _ _ (call (Value.builtin "set.add") [Value.ref _, Value.int _ _]) _ _ _); k_dflt (refine' setAdd_N ?F ?N ?U ?s ?r ?k ?_; (case F => k_asm); (case N => k_asm); (case U => k_updF); (case s => assumption); (case r => omega); (case k => assumption)); intro h' o' ks' F' N' s' p'; (try dsimp only at N')))
local macro_rules | `(tactic| walk_at "eval ListComp") => `(tactic| (k_here; refine halt ?_))
local macro_rules | `(tactic| walk_at "exec Assign cons ListComp") => `(tactic| (k_here; refine halt ?_))
local macro_rules | `(tactic| walk_at "SrcLP") => `(tactic| (k_here; refine halt ?_))
local macro_rules | `(tactic| walk_at "CompSrc") => `(tactic| (k_here; refine halt ?_))
local macro_rules | `(tactic| walk_at "CompEnd") => `(tactic| (k_here; refine halt ?_))
local macro_rules | `(tactic| walk_at "binaryOp BitXor") => `(tactic| (k_here; (with_reducible show wpAny _ _ (binaryOp _ (Value.ref _) (Value.ref _)) _ _ _); k_dflt (refine' binop_K ?k1 ?k2 ?k3 ?k4 ?k5 ?k6 ?k7 ?_; (case k1 => k_asm); (case k2 => k_asm); (case k3 => k_inst); (case k4 => k_typeOf); (case k5 => k_is); (case k6 => k_is); (case k7 => k_is); k_whole)))
local macro_rules | `(tactic| walk_at "binaryOp BitXor int int") => `(tactic| (k_here; (with_reducible refine natXor ?_); (try dsimp only)))
local macro_rules | `(tactic| walk_at "subscriptTail") => `(tactic| (k_here; (with_reducible show wpAny _ _ (subscriptTail _ _ (Value.ref _) (Value.int _ _)) _ _ _); k_dflt (refine' itemL_N ?N ?m ?i ?x ?_; (case N => k_asm); (case m => k_mem); (case x => assumption); (case i => omega))))
local macro_rules | `(tactic| walk_at "binaryOp Add ref ref") => `(tactic| (k_here; (with_reducible show wpAny _ _ (binaryOp _ (Value.ref _) (Value.ref _)) _ _ _); k_dflt (refine' addL_N ?F ?N ?a ?b ?z ?_; (case F => k_asm); (case N => k_asm); (case a => k_mem); (case b => k_mem); (case z => first | assumption | omega)); intro D' h' F' N' l1; (try k_lt l1)))
local macro_rules | `(tactic| k_mem) => `(tactic| first | ktr_member | with_reducible assumption | exact List.mem_cons_self | ((with_reducible refine List.mem_cons_of_mem _ ?_); k_mem) | ((with_reducible refine List.mem_append_left _ ?_); k_mem) | ((with_reducible refine List.mem_append_right _ ?_); k_mem))
local macro_rules | `(tactic| walk_at "call builtin:list.append") => `(tactic| (k_here; (with_reducible show wpAny _ _ (call (Value.builtin _) [Value.ref _, _]) _ _ _); k_dflt (refine' append_K ?k1 ?k2 ?k3 ?_ ?z; (case k1 => k_asm); (case k2 => k_asm); (case k3 => first | k_upd | exact Upd.head (by assumption)); (case z => exact Nat.le_trans (m := 16384) (by omega) (by decide))); intro h' F' N'))

def lnC (base : List (Addr × Obj)) (ws : List Value) (i : Nat) (ys : List Value) (nw : List (Addr × Obj)) : Prop := nw = base ∧ ys = ws.take i
def lnF (m₀ : Str → Option Value) (base : List (Addr × Obj)) (i : Nat) (m : Str → Option Value) (nw : List (Addr × Obj)) : Prop :=
  nw = base ∧ ∃ a t, 0 ≤ a ∧ a < 2147483647 ∧ ∀ y, y ≠ Str.ofString "x" → m y = (fun y => if y = Str.ofString "last" then some (.int a t) else m₀ y) y
theorem lnF_next {m₀ : Str → Option Value} {u v n : Option Value} {x l : Str} : ∀ y, y ≠ x → (fun y => if y = l then n else if y = x then u else if y = l then v else m₀ y) y = (fun y => if y = l then n else m₀ y) y := by
  intro y hy
  by_cases h1 : y = l
  · simp only [if_pos h1]
  · simp only [if_neg h1, if_neg hy]
theorem lnW_map {m₀ : Str → Option Value} {v n : Option Value} {l : Str} : (fun y => if y = l then n else if y = l then v else m₀ y) = (fun y => if y = l then n else m₀ y) := by
  funext y
  by_cases h1 : y = l
  · simp only [if_pos h1]
  · simp only [if_neg h1]
theorem fd_bd (x : Int) (h : 0 ≤ x ∧ x < 2147483647) : 0 ≤ x.fdiv 13 ∧ x.fdiv 13 < 2147483647 := by
  rw [Int.fdiv_eq_ediv_of_nonneg _ (by decide)]; omega
theorem off1_mem {D : Addr} : ∀ {l : List (Addr × Obj)}, LCg.Off1 D l → ∀ p ∈ l, p.1 ≠ D
  | [], _, _, h => nomatch h
  | _ :: _, h, p, hp => by
    rcases List.mem_cons.mp hp with rfl | hp
    · exact h.1
    · exact off1_mem h.2 p hp
def lnW (m₀ : Str → Option Value) (D : Addr) (news : List (Addr × Obj)) (xs : List Int) (k : Nat) (m : Str → Option Value) (nw : List (Addr × Obj)) : Prop :=
  ∃ a t its nn ns, 0 ≤ a ∧ a < 2147483647 ∧ m = (fun y => if y = Str.ofString "last" then some (.int a t) else m₀ y) ∧ nw = (D, listOf its nn) :: news ∧ IntsAre its.toList ns ∧ its.size = ns.length ∧ ns.length + k = 9 ∧ ∀ x ∈ ns, x ∈ xs ∨ 0 ≤ x ∧ x < 2147483647
set_option maxRecDepth 100000 in
set_option maxHeartbeats 800000 in
theorem ln_c : ∀ (w : World) (sc : Addr) (vs : List Value) (xs : List Int) (t : Tok) (mean : ExcName → Option Value) (mg mb : Str → Option Value) (dp un : Nat) (gd : Option (List Code)) (cn : Str) (cs : Scope) (a : Addr) (ccd : Value) (cl : List (Str × Addr)) (outer : List Env) (A₀ : Around) (base h₀ : Heap) (L : Addr) (m : Str → Option Value) (news : List (Addr × Obj)) (s : Shared)
    (Q E : Value → Shared → Prop),
    Below A₀ base outer h₀ → Fr h₀ L s.heap m → (hd.heap_39 w.params).In h₀ → News h₀ L s.heap news → Top hd.view_39 (looseW hd.view_39 [Str.ofString "BytesIO"]) mean mg mb h₀ → cs.kind = .function →
    dp + 20 < recursionLimit → un + 200 < cLine → h₀.IsList sc vs.toArray → IntsAre vs xs → ¬ 63 < xs.length →
    (∀ fa its n ns h' tk', Fr h₀ L h' m → News h₀ L h' ((fa, listOf its n) :: news) → (∀ p ∈ news, p.1 ≠ fa) → IntsAre its.toList ns → ns.length = 9 → (∀ x ∈ ns, x ∈ xs ∨ 0 ≤ x ∧ x < 2147483647) → Q (.ref fa) { s with heap := h', toks := tk' }) →
    wpAny (model Challenge.rw_ft5007_01.row.prog w) (ktrTop dp un gd cn cs L a ccd cl outer) (call (.ref 197) [.ref sc, .int 9 t]) Q E s := by
  k_fill
  intro w sc vs xs t mean mg mb dp un gd cn cs a ccd cl outer A₀ base h₀ L m news s Q E B F X N T hk hdp hun hl hvs hxs ret
  refine wpAny_call ?_
  k_dflt ktr_enter
  rename Fr h₀ L _ m => FG9
  have hl' := hl
  replace hl' := (show PySem.Heap.IsList _ sc vs.toArray from let ⟨o, e, r⟩ := hl'; ⟨o, FG9.keep _ _ e, r⟩)
  k_steps
  unfold Halt
  k_dflt (refine LCg.Assign_ListComp_U (F₀ := by k_asm) (by rfl) (by with_unfolding_all rfl) (by with_unfolding_all rfl) (by decide) (by rfl) (by decide) (by rfl) (by rfl) (by rfl) ?_)
  k_steps
  unfold Halt
  rename_i D5 ws5 h5 F5 N5 l5 hI5 hC5 hL5
  have hws : ws5.length = min 9 xs.length := by rw [hI5.length, hC5]
  refine LCg.CompSrc.ledger rfl F5 N5 (its := ws5.toArray) (k := 0) List.mem_cons_self (by rw [List.size_toArray]; exact Nat.le_trans (show ws5.length ≤ 16384 by omega) (by decide)) ?_
  intro g5
  refine compU_ind (lnC ((D5, listOf ws5.toArray 0) :: news) ws5) ⟨rfl, rfl⟩ ?_ ?_
  · rintro ys nw ⟨rfl, rfl⟩
    intro D h6 tk6 F6 N6 o6
    rw [List.size_toArray, List.take_length] at N6
    have oD : ∀ p ∈ news, p.1 ≠ D := off1_mem o6.2
    k_steps
    unfold Halt
    refine For_listF (by k_asm) ?_
    k_steps
    unfold Halt
    refine ⟨sc, vs.toArray, _, _, lnF _ _, rfl, rfl, by k_asm, by k_asm, .inl hl', ⟨rfl, _, _, ?_, ?_, fun y hy => rfl⟩, fun _ _ _ _ => .inl hl', ?_, ?_⟩
    · omega
    · omega
    · rintro i v I m₁ nw oI h tk hv ⟨rfl, a, t9, ha, ha', hm⟩ F₁ N₁ off₁
      obtain ⟨x9, tx, rfl, hx9⟩ := hvs.at i v (by simpa using hv)
      k_dflt (refine asgL F₁ N₁ hm ?_)
      intro h' F' N'
      k_steps
      refine' ForEnd.next ?F ?N ?sub ?off ?J
      case F => k_asm
      case N => k_asm
      case sub => exact fun _ h => h
      case off => exact off₁
      case J =>
        exact ⟨rfl, _, _, (fm_bd _).1, (fm_bd _).2, lnF_next⟩
    · rintro m' nw h tk ⟨rfl, a, t9, ha, ha', hm⟩ F₁ N₁
      have F₂ := Fr.swap (by decide) (Fr.at1 F₁ hm)
      clear F₁
      k_steps
      unfold Halt
      refine noraise (While_inv (lnW _ D news xs) (n₀ := 9 - (xs.take 9).length) (by k_asm) (News.sub' (n' := (D, listOf ws5.toArray ws5.length) :: news) N₁ ?sub2) ⟨a, t9, ws5.toArray, ws5.length, xs.take 9, ha, ha', rfl, rfl, by simpa using hI5, by rw [List.size_toArray, hI5.length], by rw [hC5]; omega, fun x hx => .inl (List.mem_of_mem_take hx)⟩ ?turn (fun _ _ h => h.elim))
      case sub2 => exact fun p hp => by simp only [List.mem_cons] at hp ⊢; rcases hp with h | h <;> simp [h]
      case turn =>
        rintro n m₁ nw h₁ tk₁ F₁ N₁ ⟨a, t9, its, nn, ns, ha, ha', rfl, rfl, hI, hsz, hk, hx⟩
        k_steps
        · refine' WhileStep.intro ?F ?N (n' := n - 1) ?n ?J
          case F => k_asm
          case N => k_asm
          case n => omega
          case J =>
            refine ⟨_, _, _, _, ns ++ [((a * 48271 + 11).fmod 2147483647).fdiv 13], (fm_bd _).1, (fm_bd _).2, lnW_map, rfl, ?_, ?_, ?_, ?_⟩
            · rw [Array.toList_push]; exact hI.append (IntsAre.cons _ _ .nil)
            · rw [Array.size_push, List.length_append, hsz]; rfl
            · rw [List.length_append, List.length_singleton]; omega
            · intro x hx9
              rcases List.mem_append.mp hx9 with h | h
              · exact hx x h
              · rw [List.mem_singleton.mp h]; exact .inr (fd_bd _ (fm_bd _))
        · exact ret D its nn ns _ _ (by k_asm) (by k_asm) oD hI (by omega) hx
  · rintro i ys nw v hi ⟨rfl, rfl⟩ hv I oI C oC D m₂ h6 tk6 E' hns hx1 F6 N6 off6 ne6
    k_steps
    unfold Halt
    refine LCg.CompEnd.intro F6 N6 _ (fun _ h => h) off6 (.inr ⟨_, List.mem_cons_self, rfl, _, rfl⟩) ⟨rfl, ?_⟩
    rw [List.take_add_one]
    have : ws5[i]? = some v := by simpa using hv
    rw [this]; rfl
end Mine
end
section
open PySem PySem.W PyProof.Rows
set_option maxRecDepth 100000
namespace Mine
/-- how many of the low n bits are set -/
def wt : Nat → Nat → Nat
  | 0, _ => 0
  | n + 1, M => wt n M + (if M.testBit n then 1 else 0)
theorem wt_le : ∀ (n M : Nat), wt n M ≤ n
  | 0, _ => Nat.le_refl _
  | n + 1, M => by have := wt_le n M; rw [wt]; split <;> omega
theorem wt_congr : ∀ {n M M' : Nat}, (∀ j, j < n → M.testBit j = M'.testBit j) → wt n M = wt n M'
  | 0, _, _, _ => rfl
  | n + 1, M, M', h => by rw [wt, wt, wt_congr fun j hj => h j (by omega), h n (by omega)]
theorem sel_append : ∀ (pl : List Int) (p : Int) (M : Nat), sel (pl ++ [p]) M = sel pl M ++ (if M.testBit pl.length then [p] else [])
  | [], p, M => by
    show (if M % 2 = 1 then p :: sel [] (M / 2) else sel [] (M / 2)) = _
    have : M.testBit 0 = decide (M % 2 = 1) := Nat.testBit_zero M
    rw [List.length_nil, this]
    by_cases h : M % 2 = 1 <;> simp [h, sel]
  | q :: pl, p, M => by
    show (if M % 2 = 1 then q :: sel (pl ++ [p]) (M / 2) else sel (pl ++ [p]) (M / 2)) = (if M % 2 = 1 then q :: sel pl (M / 2) else sel pl (M / 2)) ++ _
    rw [sel_append pl p (M / 2), List.length_cons, ← Nat.testBit_div_two]
    split <;> simp
theorem sel_wt (pl : List Int) (M : Nat) : (sel pl M).length = wt pl.length M := by
  suffices h : ∀ n (pl : List Int), pl.length = n → (sel pl M).length = wt n M from h _ pl rfl
  intro n
  induction n with
  | zero => intro pl h; rw [List.length_eq_zero_iff.mp h]; rfl
  | succ n ih =>
    intro pl h
    obtain ⟨l, p, rfl⟩ : ∃ l p, pl = l ++ [p] := by
      refine ⟨pl.dropLast, pl.getLast (fun e => by rw [e] at h; cases h), (List.dropLast_concat_getLast _).symm⟩
    rw [List.length_append, List.length_singleton] at h
    have hl : l.length = n := by omega
    rw [sel_append, List.length_append, ih l hl, wt, hl]
    split <;> rfl
/-- the table of sizes -/
def szs : Nat → List Nat
  | 0 => [0]
  | n + 1 => szs n ++ (szs n).map (· + 1)
theorem szs_len : ∀ n, (szs n).length = 2 ^ n
  | 0 => rfl
  | n + 1 => by rw [szs, List.length_append, List.length_map, szs_len n, Nat.pow_succ]; omega
theorem sub_testBit {n M j : Nat} (h : 2 ^ n ≤ M) (hj : j < n) : (M - 2 ^ n).testBit j = M.testBit j := by
  have e : M = 2 ^ n + (M - 2 ^ n) := by omega
  rw [show M.testBit j = (2 ^ n + (M - 2 ^ n)).testBit j by rw [← e], Nat.testBit_two_pow_add_gt hj]
theorem top_testBit {n M : Nat} (h : 2 ^ n ≤ M) (h2 : M < 2 ^ (n + 1)) : M.testBit n = true := by
  have e : M = 2 ^ n + (M - 2 ^ n) := by omega
  rw [show M.testBit n = (2 ^ n + (M - 2 ^ n)).testBit n by rw [← e], Nat.testBit_two_pow_add_eq]
  rw [Nat.testBit_lt_two_pow (by rw [Nat.pow_succ] at h2; omega)]; rfl
theorem szs_at : ∀ {n M : Nat}, M < 2 ^ n → (szs n)[M]? = some (wt n M)
  | 0, M, h => by have : M = 0 := by simp at h; exact h
                  subst this; rfl
  | n + 1, M, h => by
    by_cases hM : M < 2 ^ n
    · rw [szs, List.getElem?_append_left (by rw [szs_len]; exact hM), szs_at hM, wt, Nat.testBit_lt_two_pow hM]; rfl
    · rw [szs, List.getElem?_append_right (by rw [szs_len]; omega), szs_len, List.getElem?_map, szs_at (by rw [Nat.pow_succ] at h; omega), wt, top_testBit (by omega) h]
      rw [wt_congr (n := n) (M := M - 2 ^ n) (M' := M) fun j hj => sub_testBit (by omega) hj]; rfl
/-- the sum over a list -/
def lsum : List Nat → (Nat → Int) → Int
  | [], _ => 0
  | a :: l, f => f a + lsum l f
theorem lsum_app (f : Nat → Int) : ∀ a b : List Nat, lsum (a ++ b) f = lsum a f + lsum b f
  | [], b => by simp [lsum]
  | x :: a, b => by rw [List.cons_append, lsum, lsum, lsum_app f a b, Int.add_assoc]
theorem lsum_map (f : Nat → Int) (g : Nat → Nat) : ∀ a : List Nat, lsum (a.map g) f = lsum a fun x => f (g x)
  | [] => rfl
  | x :: a => by rw [List.map_cons, lsum, lsum, lsum_map f g a]
theorem lsum_congr {f g : Nat → Int} : ∀ {a : List Nat}, (∀ x ∈ a, f x = g x) → lsum a f = lsum a g
  | [], _ => rfl
  | x :: a, h => by rw [lsum, lsum, h x (.head _), lsum_congr fun y hy => h y (.tail _ hy)]
theorem lsum_mul (c : Int) (f : Nat → Int) : ∀ a : List Nat, lsum a (fun x => c * f x) = c * lsum a f
  | [] => by simp [lsum]
  | x :: a => by rw [lsum, lsum, lsum_mul c f a, Int.mul_add]
theorem lsum_mulr (c : Int) (f : Nat → Int) (a : List Nat) : lsum a (fun x => f x * c) = lsum a f * c := by
  rw [Int.mul_comm, ← lsum_mul]; exact lsum_congr fun x _ => Int.mul_comm _ _
theorem lsum_add (f g : Nat → Int) : ∀ a : List Nat, lsum a (fun x => f x + g x) = lsum a f + lsum a g
  | [] => rfl
  | x :: a => by rw [lsum, lsum, lsum, lsum_add f g a]; omega
theorem lsum_zero : ∀ a : List Nat, lsum a (fun _ => 0) = 0
  | [] => rfl
  | x :: a => by rw [lsum, lsum_zero a]; rfl
theorem lsum_swap (F : Nat → Nat → Int) (b : List Nat) : ∀ a : List Nat, lsum a (fun x => lsum b fun y => F x y) = lsum b (fun y => lsum a fun x => F x y)
  | [] => by rw [lsum]; exact (lsum_zero b).symm
  | x :: a => by rw [lsum, lsum_swap F b a, ← lsum_add]; rfl
/-- the sign of two words -/
def sg (n v W : Nat) : Int := (-1) ^ wt n (v &&& W)
theorem sg_zero (v W : Nat) : sg 0 v W = 1 := rfl
theorem sg_succ (n v W : Nat) : sg (n + 1) v W = sg n v W * (if v.testBit n && W.testBit n then -1 else 1) := by
  unfold sg
  rw [wt, Nat.testBit_and]
  split
  · rw [Int.pow_succ]
  · rw [Nat.add_zero, Int.mul_one]
theorem sg_xor (v W M : Nat) : ∀ n, sg n v (W ^^^ M) = sg n v W * sg n v M
  | 0 => rfl
  | n + 1 => by
    rw [sg_succ, sg_succ, sg_succ, sg_xor v W M n, Nat.testBit_xor]
    generalize sg n v W = a
    generalize sg n v M = b
    cases v.testBit n <;> cases W.testBit n <;> cases M.testBit n <;> simp [Int.mul_neg, Int.neg_mul]
theorem sg_v0 (W : Nat) : ∀ n, sg n 0 W = 1
  | 0 => rfl
  | n + 1 => by rw [sg_succ, sg_v0 W n]; simp
theorem sg_W0 (v : Nat) : ∀ n, sg n v 0 = 1
  | 0 => rfl
  | n + 1 => by rw [sg_succ, sg_W0 v n]; simp
theorem sg_congr {n v v' W : Nat} (h : ∀ j, j < n → v.testBit j = v'.testBit j) : sg n v W = sg n v' W := by
  have e : wt n (v &&& W) = wt n (v' &&& W) := wt_congr fun j hj => by rw [Nat.testBit_and, Nat.testBit_and, h j hj]
  unfold sg; rw [e]
theorem range_two (n : Nat) : List.range (2 ^ (n + 1)) = List.range (2 ^ n) ++ (List.range (2 ^ n)).map (2 ^ n + ·) := by
  rw [Nat.pow_succ, Nat.mul_two, List.range_add]
/-- one word's power sum -/
theorem mac_word (x y : Int) (W : Nat) : ∀ n, (x + y) ^ (n - wt n W) * (x - y) ^ wt n W = lsum (List.range (2 ^ n)) fun v => sg n v W * (x ^ (n - wt n v) * y ^ wt n v)
  | 0 => by simp [wt, lsum, sg, List.range_succ]
  | n + 1 => by
    rw [range_two, lsum_app, lsum_map]
    have e1 : lsum (List.range (2 ^ n)) (fun v => sg (n + 1) v W * (x ^ (n + 1 - wt (n + 1) v) * y ^ wt (n + 1) v)) = x * lsum (List.range (2 ^ n)) (fun v => sg n v W * (x ^ (n - wt n v) * y ^ wt n v)) := by
      rw [← lsum_mul]
      refine lsum_congr fun v hv => ?_
      have hv' := List.mem_range.mp hv
      have hb : v.testBit n = false := Nat.testBit_lt_two_pow hv'
      rw [sg_succ, wt, hb]
      have := wt_le n v
      simp only [Bool.false_and, Bool.false_eq_true, if_false, Nat.add_zero, Int.mul_one]
      rw [show n + 1 - wt n v = (n - wt n v) + 1 by omega, Int.pow_succ]
      simp only [Int.mul_comm, Int.mul_left_comm, Int.mul_assoc]
    have e2 : lsum (List.range (2 ^ n)) (fun v => sg (n + 1) (2 ^ n + v) W * (x ^ (n + 1 - wt (n + 1) (2 ^ n + v)) * y ^ wt (n + 1) (2 ^ n + v))) = ((if W.testBit n then -1 else 1) * y) * lsum (List.range (2 ^ n)) (fun v => sg n v W * (x ^ (n - wt n v) * y ^ wt n v)) := by
      rw [← lsum_mul]
      refine lsum_congr fun v hv => ?_
      have hv' := List.mem_range.mp hv
      have hb : (2 ^ n + v).testBit n = true := by rw [Nat.testBit_two_pow_add_eq, Nat.testBit_lt_two_pow hv']; rfl
      have hj : ∀ j, j < n → (2 ^ n + v).testBit j = v.testBit j := fun j hj => Nat.testBit_two_pow_add_gt hj v
      rw [sg_succ, wt, hb, sg_congr hj, wt_congr hj]
      simp only [Bool.true_and, if_true]
      have := wt_le n v
      rw [show n + 1 - (wt n v + 1) = n - wt n v by omega, Int.pow_succ]
      split <;> simp only [Int.mul_comm, Int.mul_left_comm, Int.mul_assoc]
    rw [e1, e2, ← mac_word x y W n, wt]
    have := wt_le n W
    generalize hk : wt n W = k at *
    split
    · rw [show n + 1 - (k + 1) = n - k by omega, Int.pow_succ, ← Int.add_mul]
      have : x + (-1) * y = x - y := by omega
      rw [this]
      simp only [Int.mul_comm, Int.mul_left_comm, Int.mul_assoc]
    · rw [Nat.add_zero k, show n + 1 - k = (n - k) + 1 by omega, Int.pow_succ, ← Int.add_mul, Int.one_mul]
      simp only [Int.mul_comm, Int.mul_left_comm, Int.mul_assoc]
/-- the signs over all words -/
theorem sg_all (n v : Nat) (ms : List Nat) : lsum (allM ms) (sg n v) = ms.foldl (fun a m => a * (1 + sg n v m)) 1 := by
  suffices h : ∀ (ms ws : List Nat), lsum (ms.foldl (fun ws m => ws ++ ws.map (fun x => x ^^^ m)) ws) (sg n v) = ms.foldl (fun a m => a * (1 + sg n v m)) (lsum ws (sg n v)) by
    unfold allM; rw [h]; simp [lsum, sg_W0]
  intro ms
  induction ms with
  | nil => intro ws; rfl
  | cons m ms ih =>
    intro ws
    rw [List.foldl_cons, List.foldl_cons, ih, lsum_app, lsum_map]
    congr 1
    rw [lsum_congr (g := fun x => sg n v x * sg n v m) fun x _ => sg_xor v x m n, lsum_mulr, Int.mul_add, Int.mul_one]
theorem one_pw : ∀ k : Nat, (1 : Int) ^ k = 1
  | 0 => rfl
  | k + 1 => by rw [Int.pow_succ, one_pw k]; rfl
theorem sg_even {n v W : Nat} (h : wt n (v &&& W) % 2 = 0) : sg n v W = 1 := by
  unfold sg
  obtain ⟨k, hk⟩ : ∃ k, wt n (v &&& W) = 2 * k := ⟨wt n (v &&& W) / 2, by omega⟩
  rw [hk, Int.pow_mul]
  exact one_pw k
theorem sg_odd {n v W : Nat} (h : wt n (v &&& W) % 2 = 1) : sg n v W = -1 := by
  unfold sg
  obtain ⟨k, hk⟩ : ∃ k, wt n (v &&& W) = 2 * k + 1 := ⟨wt n (v &&& W) / 2, by omega⟩
  rw [hk, Int.pow_succ, Int.pow_mul, show ((-1 : Int) ^ 2) = 1 from rfl, one_pw k]; rfl
/-- does the word share an even number of places with each -/
abbrev evenAll (n v : Nat) (ms : List Nat) : Prop := ∀ m ∈ ms, wt n (v &&& m) % 2 ≠ 1
theorem mac3 {n : Nat} (x y : Int) (a b c : Nat) :
    lsum (allM [a, b, c]) (fun W => (x + y) ^ (n - wt n W) * (x - y) ^ wt n W) = 8 * lsum (List.range (2 ^ n)) (fun v => if evenAll n v [a, b, c] then x ^ (n - wt n v) * y ^ wt n v else 0) := by
  rw [lsum_congr (g := fun W => lsum (List.range (2 ^ n)) fun v => sg n v W * (x ^ (n - wt n v) * y ^ wt n v)) fun W _ => mac_word x y W n]
  rw [lsum_swap, ← lsum_mul]
  refine lsum_congr fun v _ => ?_
  rw [lsum_mulr, sg_all]
  simp only [List.foldl_cons, List.foldl_nil, Int.one_mul]
  by_cases h : evenAll n v [a, b, c]
  · rw [if_pos h, sg_even (W := a) (by have := h a (by simp); omega), sg_even (W := b) (by have := h b (by simp); omega), sg_even (W := c) (by have := h c (by simp); omega)]
    rfl
  · rw [if_neg h, Int.mul_zero]
    have : (1 + sg n v a) * (1 + sg n v b) * (1 + sg n v c) = 0 := by
      by_cases h1 : wt n (v &&& a) % 2 = 1
      · rw [sg_odd h1]; simp
      · by_cases h2 : wt n (v &&& b) % 2 = 1
        · rw [sg_odd h2]; simp
        · by_cases h3 : wt n (v &&& c) % 2 = 1
          · rw [sg_odd h3]; simp
          · exfalso
            refine h fun m hm => ?_
            simp only [List.mem_cons, List.not_mem_nil, or_false] at hm
            rcases hm with rfl | rfl | rfl <;> assumption
    rw [this, Int.zero_mul]
/-- all words over the single masks -/
theorem allM_single : ∀ n, allM ((List.range n).map (2 ^ ·)) = List.range (2 ^ n)
  | 0 => rfl
  | n + 1 => by
    rw [List.range_succ, List.map_append, List.map_cons, List.map_nil, allM_snoc, allM_single n, range_two]
    congr 1
    refine List.map_congr_left fun v hv => ?_
    have hv' := List.mem_range.mp hv
    apply Nat.eq_of_testBit_eq
    intro j
    rw [Nat.testBit_xor, Nat.testBit_two_pow]
    by_cases h : n = j
    · subst h
      rw [Nat.testBit_two_pow_add_eq, decide_eq_true rfl, Bool.xor_true]
    · rw [decide_eq_false h, Bool.xor_false]
      by_cases h2 : j < n
      · rw [Nat.testBit_two_pow_add_gt h2]
      · rw [Nat.testBit_lt_two_pow (Nat.lt_of_lt_of_le hv' (Nat.pow_le_pow_right (by decide) (by omega))), Nat.testBit_lt_two_pow]
        calc 2 ^ n + v < 2 ^ (n + 1) := by rw [Nat.pow_succ]; omega
          _ ≤ 2 ^ j := Nat.pow_le_pow_right (by decide) (by omega)
theorem allM_lt {n : Nat} {ms : List Nat} (h : ∀ m ∈ ms, m < 2 ^ n) : ∀ W ∈ allM ms, W < 2 ^ n := by
  suffices key : ∀ (ms ws : List Nat), (∀ m ∈ ms, m < 2 ^ n) → (∀ W ∈ ws, W < 2 ^ n) → ∀ W ∈ ms.foldl (fun ws m => ws ++ ws.map (fun x => x ^^^ m)) ws, W < 2 ^ n from key ms [0] h (by simp [Nat.two_pow_pos])
  intro ms
  induction ms with
  | nil => intro ws _ h W hW; exact h W hW
  | cons m ms ih =>
    intro ws h1 h2 W hW
    rw [List.foldl_cons] at hW
    refine ih _ (fun q hq => h1 q (.tail _ hq)) (fun q hq => ?_) W hW
    rcases List.mem_append.mp hq with hq | hq
    · exact h2 q hq
    · obtain ⟨z, hz, rfl⟩ := List.mem_map.mp hq
      exact Nat.xor_lt_two_pow (h2 z hz) (h1 m (.head _))
end Mine
end
section
open PySem PySem.W PyProof.Rows
set_option maxRecDepth 100000
namespace Mine
section
variable {prog : Program} {w : World} {A : Around} {E : Value → Shared → Prop} {s : Shared} {env : Env} {h₀ : Heap} {L : Addr} {m : Str → Option Value}
theorem compRange0 {elt : Expr} {x : Str} {scope : Scope} {cl : List (Str × Addr)} {Fin : Shared → List Value → List (Addr × Obj) → Prop} {r : Addr} {t u v : Tok} {n : Nat} {news : List (Addr × Obj)} {s₁ : Shared}
    (hh : A.handled = none) (F : Fr h₀ L s₁.heap m) (N : News h₀ L s₁.heap news) (hr : IsRange s₁.heap r 0 ((n : Nat) : Int) 1 t u v) (hsz : n ≤ 1000)
    (h : ∀ g, LCg.CompRest prog w A h₀ L m env elt x scope cl { s₁ with heap := g } (fun _ => True) (fun i v => ∃ t, v = .int (0 + (i : Int)) t) (Fin { s₁ with heap := g }) n 0 [] news) :
    LCg.CompSrc prog w A h₀ L m env elt x scope cl Fin (.ref r) s₁ :=
  LCg.CompSrc.range hh F N hr (small_one (by omega) (by omega) (by omega) (by omega)) (by rw [rangeSize_nat]; congr 1) (Nat.le_trans hsz (by decide)) h
/-- cut a list of statements behind its first -/
theorem execs_cut {M : Model} {st : Stmt} {rest : List Stmt} {Q : Flow → Shared → Prop} (C : Shared → Prop)
    (h1 : wpAny M A (exec st env) (fun f s' => f = .next ∧ C s') E s) (h2 : ∀ s', C s' → wpAny M A (execs rest env) Q E s') : wpAny M A (execs (st :: rest) env) Q E s :=
  wpAny_execs_cons (wpAny_mono h1 (fun f s' h => by obtain ⟨rfl, h⟩ := h; exact h2 s' h) fun _ _ h => h)
end
theorem n_of (x : Int) : ∃ n : Nat, 1 + x.fmod 6 = ((n : Nat) : Int) ∧ 1 ≤ n ∧ n ≤ 6 := by
  rw [Int.fmod_eq_emod_of_nonneg _ (by decide)]
  exact ⟨(1 + x % 6).toNat, by omega, by omega, by omega⟩
theorem st_of (x : Int) : ∃ n : Nat, 1 + x.fmod 70 = ((n : Nat) : Int) ∧ 1 ≤ n ∧ n ≤ 70 := by
  rw [Int.fmod_eq_emod_of_nonneg _ (by decide)]
  exact ⟨(1 + x % 70).toNat, by omega, by omega, by omega⟩
theorem p_of (x : Int) : ∃ n : Nat, x.fmod 64 = ((n : Nat) : Int) ∧ n < 64 := by
  rw [Int.fmod_eq_emod_of_nonneg _ (by decide)]
  exact ⟨(x % 64).toNat, by omega, by omega⟩
/-- the places -/
def plc (p0 st n : Nat) : List Int := (List.range n).map fun k => ((p0 + k * st : Nat) : Int)
theorem plc_succ (p0 st n : Nat) : plc p0 st (n + 1) = plc p0 st n ++ [((p0 + n * st : Nat) : Int)] := by
  unfold plc; rw [List.range_succ, List.map_append]; rfl
theorem plc_len (p0 st n : Nat) : (plc p0 st n).length = n := by unfold plc; rw [List.length_map, List.length_range]
theorem plc_nodup {p0 st n : Nat} (h : 1 ≤ st) : (plc p0 st n).Nodup := by
  induction n with
  | zero => exact List.nodup_nil
  | succ n ih =>
    rw [plc_succ, List.nodup_append]
    refine ⟨ih, by simp, fun a ha b hb => ?_⟩
    rw [List.mem_singleton] at hb
    subst hb
    obtain ⟨k, hk, rfl⟩ := List.mem_map.mp ha
    have hk' := List.mem_range.mp hk
    have : k * st < n * st := Nat.mul_lt_mul_of_pos_right hk' h
    omega
theorem plc_bd {p0 st n : Nat} (h0 : p0 < 64) (hs : st ≤ 70) (hn : n ≤ 6) : ∀ z ∈ plc p0 st n, ∃ k : Nat, z = k ∧ k < 448 := by
  intro z hz
  obtain ⟨k, hk, rfl⟩ := List.mem_map.mp hz
  have hk' := List.mem_range.mp hk
  refine ⟨_, rfl, ?_⟩
  have : k * st ≤ 5 * 70 := Nat.mul_le_mul (by omega) hs
  omega
theorem off1_of {D : Addr} : ∀ {l : List (Addr × Obj)}, (∀ p ∈ l, p.1 ≠ D) → LCg.Off1 D l
  | [], _ => trivial
  | p :: _, h => ⟨h p (.head _), off1_of fun q hq => h q (.tail _ hq)⟩
theorem allLt_mem {D : Addr} : ∀ {l : List (Addr × Obj)}, AllLt D l → ∀ p ∈ l, p.1 < D := kst_ltOf
/-- the loop over sizes -/
def szJ (m₀ : Str → Option Value) (c : Addr) (b1 b2 : List (Addr × Obj)) (i : Nat) (m : Str → Option Value) (nw : List (Addr × Obj)) : Prop :=
  (∀ y, y ≠ Str.ofString "k" → m y = m₀ y) ∧ ∃ (sa : Addr) (its : Array Value) (nn : Nat) (osz : Obj), nw = (sa, listOf its nn) :: (b1 ++ (c, osz) :: b2) ∧ osz.data = .cell (some (.ref sa)) ∧ AllLt sa (b1 ++ (c, osz) :: b2) ∧ IntsAre its.toList (nats (szs i))
def scJ (ks : List Nat) (base : List (Addr × Obj)) (i : Nat) (ys : List Value) (nw : List (Addr × Obj)) : Prop := nw = base ∧ IntsAre ys (nats ((ks.take i).map (· + 1)))
theorem nats_at {l : List Nat} {i : Nat} {x : Int} (h : (nats l)[i]? = some x) : ∃ k, l[i]? = some k ∧ x = (k : Int) := by
  rw [List.getElem?_map] at h
  cases q : l[i]? with
  | none => rw [q] at h; cases h
  | some c => rw [q] at h; exact ⟨c, rfl, (Option.some.inj h).symm⟩
theorem sc_snoc {ks : List Nat} {i k : Nat} {ys : List Value} {t : Tok} (h : ks[i]? = some k) (hy : IntsAre ys (nats ((ks.take i).map (· + 1)))) : IntsAre (ys ++ [.int ((k : Int) + 1) t]) (nats ((ks.take (i + 1)).map (· + 1))) := by
  rw [List.take_add_one, h, List.map_append, nats_app]
  exact IntsAre.snocE hy rfl
theorem szs_le {i : Nat} (h : i ≤ 6) : (szs i).length ≤ 64 := by
  rw [szs_len]; exact Nat.pow_le_pow_right (n := 2) (by decide) h
/-- one mask -/
def mk (n : Nat) (x : Int) : Nat := (x % ((2 ^ n : Nat) : Int)).toNat
theorem mk_lt (n : Nat) (x : Int) : mk n x < 2 ^ n := by
  unfold mk
  have h := Nat.two_pow_pos n
  have := Int.emod_lt_of_pos x (b := ((2 ^ n : Nat) : Int)) (by omega)
  have := Int.emod_nonneg x (b := ((2 ^ n : Nat) : Int)) (by omega)
  omega
theorem modPow {prog : Program} {w : World} {A : Around} {E : Value → Shared → Prop} {s : Shared} {x : Int} {k : Nat} {t u : Tok} {Q : Value → Shared → Prop} (h : Q (.int ((mk k x : Nat) : Int) s.toks) { s with toks := s.toks + 1 }) : wpAny (model prog w) A (binaryOp .Mod (.int x t) (.int ((2 ^ k : Nat) : Int) u)) Q E s := by
  have hp := Nat.two_pow_pos k
  refine mod_int' (by omega) ?_
  rw [Int.fmod_eq_emod_of_nonneg _ (by omega)]
  have := Int.emod_nonneg x (b := ((2 ^ k : Nat) : Int)) (by omega)
  have e : ((mk k x : Nat) : Int) = x % ((2 ^ k : Nat) : Int) := by unfold mk; omega
  rw [e] at h; exact h
def mkJ (n : Nat) (xs : List Int) (base : List (Addr × Obj)) (i : Nat) (ys : List Value) (nw : List (Addr × Obj)) : Prop := nw = base ∧ IntsAre ys (nats ((xs.take i).map (mk n)))
theorem mk_snoc {n : Nat} {xs : List Int} {i : Nat} {x : Int} {ys : List Value} {t : Tok} (h : xs[i]? = some x) (hy : IntsAre ys (nats ((xs.take i).map (mk n)))) : IntsAre (ys ++ [.int ((mk n x : Nat) : Int) t]) (nats ((xs.take (i + 1)).map (mk n))) := by
  rw [List.take_add_one, h, List.map_append, nats_app]
  exact IntsAre.snocE hy rfl
/-- sets made one by one -/
def stJ (w : World) (pl : List Int) (base : List (Addr × Obj)) (Ms : List Nat) (i : Nat) (ys : List Value) (nw : List (Addr × Obj)) : Prop :=
  ∃ tl, nw = tl ++ base ∧ (∀ p ∈ tl, ∀ q ∈ base, @LT.lt Nat _ q.1 p.1) ∧ SetsAre w pl tl ys.toArray (Ms.take i)
theorem SetsAre.mono {w : World} {pl : List Int} {tl tl' : List (Addr × Obj)} {vs : Array Value} {ms : List Nat} (h : SetsAre w pl tl vs ms) (hs : ∀ p ∈ tl, p ∈ tl') : SetsAre w pl tl' vs ms :=
  ⟨h.1, fun i v M hv hM => by obtain ⟨b, hb⟩ := h.2 i v M hv hM; exact ⟨b, hb.mono hs⟩⟩
theorem SetsAre.snoc {w : World} {pl : List Int} {tl : List (Addr × Obj)} {ys : List Value} {Ms : List Nat} {j M : Nat} {v : Value} {b : Addr} (hM : Ms[j]? = some M) (h : SetsAre w pl tl ys.toArray (Ms.take j)) (h1 : BM w tl v b (sel pl M)) : SetsAre w pl tl (ys ++ [v]).toArray (Ms.take (j + 1)) := by
  have hl : ys.length = (Ms.take j).length := h.1
  rw [List.take_add_one, hM]
  refine ⟨by simp [hl], fun i v' M' hv hM' => ?_⟩
  simp only [List.getElem?_toArray] at hv
  by_cases hi : i < ys.length
  · rw [List.getElem?_append_left hi] at hv
    rw [List.getElem?_append_left (by omega)] at hM'
    exact h.2 i v' M' (by simpa using hv) hM'
  · rw [List.getElem?_append_right (by omega)] at hv
    rw [List.getElem?_append_right (by omega), ← hl] at hM'
    have h0 : i - ys.length = 0 := by
      rcases Nat.eq_zero_or_pos (i - ys.length) with h | h
      · exact h
      · rw [List.getElem?_eq_none (by rw [List.length_singleton]; exact h)] at hv; cases hv
    rw [h0] at hv hM'
    simp at hv hM'
    subst hv; subst hM'
    exact ⟨b, h1⟩
theorem sub_rot3 {a b c e f g : Addr × Obj} {l : List (Addr × Obj)} : ∀ p ∈ e :: f :: g :: a :: b :: c :: l, p ∈ a :: b :: c :: e :: f :: g :: l := by
  intro p hp; simp only [List.mem_cons] at hp ⊢; rcases hp with h | h | h | h | h | h | h <;> simp [h]
theorem masksAre_of {mvs : List Value} {ms : List Nat} (h : IntsAre mvs (nats ms)) : MasksAre mvs.toArray ms := by
  refine ⟨by rw [List.size_toArray, h.length, List.length_map], fun i v M hv hM => ?_⟩
  obtain ⟨x, t, rfl, hx⟩ := h.at i v (by simpa using hv)
  obtain ⟨q, hq, rfl⟩ := nats_at hx
  rw [hq] at hM; cases hM
  exact ⟨t, rfl⟩
section
variable {prog : Program} {w : World} {A : Around} {E : Value → Shared → Prop} {s : Shared} {h₀ : Heap} {L D : Addr} {m : Str → Option Value} {news : List (Addr × Obj)}
theorem setV0_N {vs : Array Value} {n : Nat} {v : Value} {t : Tok} {Q : Unit → Shared → Prop} {g : Obj → List (Addr × Obj)} (F : Fr h₀ L s.heap m) (N : News h₀ L s.heap news) (U : UpdF D (listOf vs n) news g) (hz : 0 < vs.size)
    (h : ∀ h', Fr h₀ L h' m → News h₀ L h' (g (listOf (vs.setIfInBounds 0 v) n)) → Q () { s with heap := h' }) : wpAny (model prog w) A (setItem (.ref D) (.int 0 t) v) Q E s := by
  obtain ⟨pre, post, rfl, hg, a, b⟩ := U.split
  have z := N (D, listOf vs n) (List.mem_append.mpr (.inr (.head _)))
  refine ki_setAt z.1 (by decide) (by decide) (by omega) (h _ (F.change (Heap.SameBut.update ..) z.2.1 z.2.2) ?_)
  rw [hg]
  exact ki_turn _ N a b rfl (by simp)
theorem item0_N {value slice : PySem.Expr} {l : Addr} {its : Array Value} {n : Nat} {u : Tok} {v : Value} {Q : Value → Shared → Prop} (N : News h₀ L s.heap news) (hm : (l, listOf its n) ∈ news) (hx : its[0]? = some v) (h : Q v s)
    (hs : subscripted slice false (.ref l) (.int 0 u) = operate [.ref l, .int 0 u] (getItem (.ref l) (.int 0 u)) := by with_unfolding_all rfl) :
    wpAny (model prog w) A (subscriptTail value slice (.ref l) (.int 0 u)) Q E s :=
  itemL_N (i := 0) N hm (by decide) hx h hs
end
theorem SetsAre.set0 {w : World} {pl : List Int} {tl : List (Addr × Obj)} {vs : Array Value} {M : Nat} {ms : List Nat} {v : Value} {b : Addr} (h : SetsAre w pl tl vs (M :: ms)) (h1 : BM w tl v b (sel pl M)) : SetsAre w pl tl (vs.setIfInBounds 0 v) (M :: ms) := by
  refine ⟨by rw [Array.size_setIfInBounds]; exact h.1, fun i v' M' hv hM => ?_⟩
  rw [Array.getElem?_setIfInBounds] at hv
  by_cases hi : 0 = i
  · subst hi
    rw [if_pos rfl] at hv
    split at hv
    · cases hv; cases hM; exact ⟨b, h1⟩
    · cases hv
  · rw [if_neg hi] at hv
    exact h.2 i v' M' hv hM
/-- what the law has made, but for the two cells -/
def lawR (n : Nat) (L fa D sa D2 : Addr) (its its2 : Array Value) (n0 nn : Nat) (ys ys2 : List Value) (R : List (Addr × Obj)) : Prop :=
  (D2, LCg.lst ys2) ∈ R ∧ (sa, listOf its2 nn) ∈ R ∧ (D, LCg.lst ys) ∈ R ∧ (fa, listOf its n0) ∈ R ∧
  (∃ o, (L + 1 + 1 + 1 + 1 + 1, o) ∈ R ∧ o.data = .cell (some (.ref sa))) ∧ (∃ o, (L + 1 + 1 + 1 + 1, o) ∈ R ∧ o.data = .cell (some (.ref D))) ∧ (∃ o t, (L + 1 + 1, o) ∈ R ∧ o.data = .cell (some (.int ((n : Nat) : Int) t))) ∧ (∃ o, (L + 1, o) ∈ R ∧ o.data = .cell (some (.ref fa)))
/-- the two cells, then all else -/
def lawN (h₀ : Heap) (L : Addr) (h : Heap) (R : List (Addr × Obj)) : Prop :=
  ∃ o7 o6 v7 v6, News h₀ L h ((L + 1 + 1 + 1 + 1 + 1 + 1 + 1, o7) :: (L + 1 + 1 + 1 + 1 + 1 + 1, o6) :: R) ∧ o7.data = .cell v7 ∧ o6.data = .cell v6 ∧ (∀ p ∈ R, p.1 ≠ (L + 1 + 1 + 1 + 1 + 1 + 1 + 1 : Addr)) ∧ (∀ p ∈ R, p.1 ≠ (L + 1 + 1 + 1 + 1 + 1 + 1 : Addr))
def ifC (w : World) (pl : List Int) (h₀ : Heap) (L : Addr) (m : Str → Option Value) (s : Shared) (D3 : Addr) (P : List (Addr × Obj) → Prop) (ms : List Nat) (s' : Shared) : Prop :=
  ∃ h' tk R vs n3, s' = { s with heap := h', toks := tk } ∧ Fr h₀ L h' m ∧ lawN h₀ L h' R ∧ (D3, listOf vs n3) ∈ R ∧ SetsAre w pl R vs ms ∧ P R
theorem execs_ifC {M : Model} {A : Around} {E : Value → Shared → Prop} {s : Shared} {env : Env} {h₀ : Heap} {L : Addr} {m : Str → Option Value} {st : Stmt} {rest : List Stmt} {Q : Flow → Shared → Prop} (F₀ : Fr h₀ L s.heap m) (w : World) (pl : List Int) (D3 : Addr) (P : List (Addr × Obj) → Prop) (ms : List Nat)
    (h1 : wpAny M A (exec st env) (fun f s' => f = .next ∧ ifC w pl h₀ L m s D3 P ms s') E s) (h2 : ∀ h' tk R vs n3, Fr h₀ L h' m → lawN h₀ L h' R → (D3, listOf vs n3) ∈ R → SetsAre w pl R vs ms → P R → wpAny M A (execs rest env) Q E { s with heap := h', toks := tk }) : wpAny M A (execs (st :: rest) env) Q E s :=
  execs_cut _ h1 fun s' h => by
    obtain ⟨h', tk, R, vs, n3, rfl, F, N, h3, h4, h5⟩ := h
    exact h2 h' tk R vs n3 F N h3 h4 h5
theorem ite_two {c A B : Prop} [Decidable c] (h1 : c → A) (h2 : ¬ c → B) : if c then A else B := by
  by_cases h : c
  · rw [if_pos h]; exact h1 h
  · rw [if_neg h]; exact h2 h
theorem truthyEnc {prog : Program} {w : World} {A : Around} {E : Value → Shared → Prop} {s : Shared} {bc : Nat} {c : Array UInt8} {t : Tok} {Q : Bool → Shared → Prop} (hc : c.size ≤ 1000) (h : Q true { s with toks := s.toks + 1 + 1 }) : wpAny (model prog w) A (truthy (.bytes (beBytes 4 bc ++ c) t)) Q E s := by
  have e : (beBytes 4 bc ++ c).size = 4 + c.size := by rw [Array.size_append, beBytes_size]
  refine truthy_bytes (by rw [e]; omega) ?_
  have : (((beBytes 4 bc ++ c).size : Int) != 0) = true := by rw [e]; simp only [bne_iff_ne, ne_eq]; omega
  rw [this]; exact h
theorem forall_cons2 {P : Addr × Obj → Prop} {a : Addr × Obj} {l : List (Addr × Obj)} (h : P a) (h' : ∀ p ∈ l, P p) : ∀ p ∈ a :: l, P p := List.forall_mem_cons.mpr ⟨h, h'⟩
theorem mkIf {w : World} {pl : List Int} {h₀ h' : Heap} {L D3 fa D sa D2 : Addr} {m : Str → Option Value} {s : Shared} {tk n n0 n3 nn : Nat} {vs its its2 : Array Value} {ms : List Nat} {ys ys2 : List Value} {ext all : List (Addr × Obj)} {o7 o6 o5 o4 o2 o1 : Obj} {v7 v6 : Option Value} {t : Tok}
    (F : Fr h₀ L h' m) (N : News h₀ L h' all)
    (sub : ∀ p ∈ (L + 1 + 1 + 1 + 1 + 1 + 1 + 1, o7) :: (L + 1 + 1 + 1 + 1 + 1 + 1, o6) :: (D3, listOf vs n3) :: (D2, LCg.lst ys2) :: (sa, listOf its2 nn) :: (D, LCg.lst ys) :: (fa, listOf its n0) :: (L + 1 + 1 + 1 + 1 + 1, o5) :: (L + 1 + 1 + 1 + 1, o4) :: (L + 1 + 1, o2) :: (L + 1, o1) :: ext, p ∈ all)
    (d7 : o7.data = .cell v7) (d6 : o6.data = .cell v6) (d5 : o5.data = .cell (some (.ref sa))) (d4 : o4.data = .cell (some (.ref D))) (d2 : o2.data = .cell (some (.int ((n : Nat) : Int) t))) (d1 : o1.data = .cell (some (.ref fa)))
    (g7 : @Ne Nat D3 (L + 1 + 1 + 1 + 1 + 1 + 1 + 1) ∧ @Ne Nat D2 (L + 1 + 1 + 1 + 1 + 1 + 1 + 1) ∧ @Ne Nat sa (L + 1 + 1 + 1 + 1 + 1 + 1 + 1) ∧ @Ne Nat D (L + 1 + 1 + 1 + 1 + 1 + 1 + 1) ∧ @Ne Nat fa (L + 1 + 1 + 1 + 1 + 1 + 1 + 1))
    (g6 : @Ne Nat D3 (L + 1 + 1 + 1 + 1 + 1 + 1) ∧ @Ne Nat D2 (L + 1 + 1 + 1 + 1 + 1 + 1) ∧ @Ne Nat sa (L + 1 + 1 + 1 + 1 + 1 + 1) ∧ @Ne Nat D (L + 1 + 1 + 1 + 1 + 1 + 1) ∧ @Ne Nat fa (L + 1 + 1 + 1 + 1 + 1 + 1))
    (x7 : ∀ p ∈ ext, @Ne Nat p.1 (L + 1 + 1 + 1 + 1 + 1 + 1 + 1)) (x6 : ∀ p ∈ ext, @Ne Nat p.1 (L + 1 + 1 + 1 + 1 + 1 + 1))
    (hs : SetsAre w pl ext vs ms) : ifC w pl h₀ L m s D3 (lawR n L fa D sa D2 its its2 n0 nn ys ys2) ms { s with heap := h', toks := tk } := by
  obtain ⟨a1, a2, a3, a4, a5⟩ := g7
  obtain ⟨b1, b2, b3, b4, b5⟩ := g6
  refine ⟨h', tk, (D3, listOf vs n3) :: (D2, LCg.lst ys2) :: (sa, listOf its2 nn) :: (D, LCg.lst ys) :: (fa, listOf its n0) :: (L + 1 + 1 + 1 + 1 + 1, o5) :: (L + 1 + 1 + 1 + 1, o4) :: (L + 1 + 1, o2) :: (L + 1, o1) :: ext, vs, n3, rfl, F, ⟨o7, o6, v7, v6, News.sub' N sub, d7, d6, ?_, ?_⟩, List.mem_cons_self, hs.mono ?_, ?_⟩
  · exact forall_cons2 a1 (forall_cons2 a2 (forall_cons2 a3 (forall_cons2 a4 (forall_cons2 a5 (forall_cons2 (neN (by dsimp only; omega)) (forall_cons2 (neN (by dsimp only; omega)) (forall_cons2 (neN (by dsimp only; omega)) (forall_cons2 (neN (by dsimp only; omega)) x7))))))))
  · exact forall_cons2 b1 (forall_cons2 b2 (forall_cons2 b3 (forall_cons2 b4 (forall_cons2 b5 (forall_cons2 (neN (by dsimp only; omega)) (forall_cons2 (neN (by dsimp only; omega)) (forall_cons2 (neN (by dsimp only; omega)) (forall_cons2 (neN (by dsimp only; omega)) x6))))))))
  · intro p hp
    exact List.mem_cons_of_mem _ (List.mem_cons_of_mem _ (List.mem_cons_of_mem _ (List.mem_cons_of_mem _ (List.mem_cons_of_mem _ (List.mem_cons_of_mem _ (List.mem_cons_of_mem _ (List.mem_cons_of_mem _ (List.mem_cons_of_mem _ hp))))))))
  · exact ⟨by simp, by simp, by simp, by simp, ⟨o5, by simp, d5⟩, ⟨o4, by simp, d4⟩, ⟨o2, t, by simp, d2⟩, ⟨o1, by simp, d1⟩⟩
theorem mkIf3 {w : World} {pl : List Int} {h₀ h' : Heap} {L D3 fa D sa D2 b x dx : Addr} {m : Str → Option Value} {s : Shared} {tk n n0 n3 nn M : Nat} {vs its its2 : Array Value} {ms : List Nat} {ys ys2 : List Value} {tl base : List (Addr × Obj)} {o3 o7 o6 o5 o4 o2 o1 so : Obj} {v7 v6 : Option Value} {t t1 t2 t3 : Tok} {c : Int} {ks : List Int}
    (F : Fr h₀ L h' m) (N : News h₀ L h' ((b, so) :: (x, instObj 188 dx) :: (dx, bmD w.params b c t1 t2 t3) :: (D3, listOf (vs.setIfInBounds 0 (.ref x)) n3) :: (tl ++ base)))
    (gall : ∀ p ∈ (D3, o3) :: (tl ++ base), p.1 < dx) (hx : @LT.lt Nat _ dx x) (hb : @LT.lt Nat _ x b) (htl : ∀ p ∈ tl, ∀ q ∈ base, @LT.lt Nat _ q.1 p.1)
    (hs8 : SetIs w so ks) (hm8 : ∀ i, i ∈ ks ↔ i ∈ sel pl M) (hsets : SetsAre w pl tl vs (M :: ms))
    (subs : ∀ p ∈ (L + 1 + 1 + 1 + 1 + 1 + 1 + 1, o7) :: (L + 1 + 1 + 1 + 1 + 1 + 1, o6) :: (D2, LCg.lst ys2) :: (sa, listOf its2 nn) :: (D, LCg.lst ys) :: (fa, listOf its n0) :: (L + 1 + 1 + 1 + 1 + 1, o5) :: (L + 1 + 1 + 1 + 1, o4) :: (L + 1 + 1, o2) :: (L + 1, o1) :: [], p ∈ base)
    (d7 : o7.data = .cell v7) (d6 : o6.data = .cell v6) (d5 : o5.data = .cell (some (.ref sa))) (d4 : o4.data = .cell (some (.ref D))) (d2 : o2.data = .cell (some (.int ((n : Nat) : Int) t))) (d1 : o1.data = .cell (some (.ref fa)))
    (g7 : @Ne Nat D3 (L + 1 + 1 + 1 + 1 + 1 + 1 + 1) ∧ @Ne Nat D2 (L + 1 + 1 + 1 + 1 + 1 + 1 + 1) ∧ @Ne Nat sa (L + 1 + 1 + 1 + 1 + 1 + 1 + 1) ∧ @Ne Nat D (L + 1 + 1 + 1 + 1 + 1 + 1 + 1) ∧ @Ne Nat fa (L + 1 + 1 + 1 + 1 + 1 + 1 + 1))
    (g6 : @Ne Nat D3 (L + 1 + 1 + 1 + 1 + 1 + 1) ∧ @Ne Nat D2 (L + 1 + 1 + 1 + 1 + 1 + 1) ∧ @Ne Nat sa (L + 1 + 1 + 1 + 1 + 1 + 1) ∧ @Ne Nat D (L + 1 + 1 + 1 + 1 + 1 + 1) ∧ @Ne Nat fa (L + 1 + 1 + 1 + 1 + 1 + 1)) :
    ifC w pl h₀ L m s D3 (lawR n L fa D sa D2 its its2 n0 nn ys ys2) (M :: ms) { s with heap := h', toks := tk } := by
  have key : ∀ (ca : Addr) (o : Obj), (ca, o) ∈ base → ∀ p ∈ (b, so) :: (x, instObj 188 dx) :: (dx, bmD w.params b c t1 t2 t3) :: tl, @Ne Nat p.1 ca := by
    intro ca o hc
    have h := gall (ca, o) (List.mem_cons_of_mem _ (List.mem_append_right _ hc))
    have h' : @LT.lt Nat _ ca dx := h
    refine forall_cons2 ?_ (forall_cons2 ?_ (forall_cons2 ?_ fun p hp => ?_))
    · dsimp only; omega
    · dsimp only; omega
    · dsimp only; omega
    · have := htl p hp _ hc; dsimp only at this; omega
  have up : ∀ p ∈ base, p ∈ (b, so) :: (x, instObj 188 dx) :: (dx, bmD w.params b c t1 t2 t3) :: (D3, listOf (vs.setIfInBounds 0 (.ref x)) n3) :: (tl ++ base) := fun p hp => by simp [hp]
  have k7 := subs _ List.mem_cons_self
  have k6 := subs _ (List.mem_cons_of_mem _ List.mem_cons_self)
  refine mkIf (n3 := n3) (o7 := o7) (o6 := o6) (o5 := o5) (o4 := o4) (o2 := o2) (o1 := o1) (ext := (b, so) :: (x, instObj 188 dx) :: (dx, bmD w.params b c t1 t2 t3) :: tl) F N ?_ d7 d6 d5 d4 d2 d1 g7 g6 (key _ o7 k7) (key _ o6 k6) (SetsAre.set0 (b := b) (hsets.mono fun p hp => List.mem_cons_of_mem _ (List.mem_cons_of_mem _ (List.mem_cons_of_mem _ hp))) ⟨x, dx, c, t1, t2, t3, so, ks, rfl, by simp, by simp, by simp, hs8, hm8⟩)
  refine forall_cons2 (up _ k7) (forall_cons2 (up _ k6) (forall_cons2 (by simp) fun p hp => ?_))
  have : ∀ p ∈ (D2, LCg.lst ys2) :: (sa, listOf its2 nn) :: (D, LCg.lst ys) :: (fa, listOf its n0) :: (L + 1 + 1 + 1 + 1 + 1, o5) :: (L + 1 + 1 + 1 + 1, o4) :: (L + 1 + 1, o2) :: (L + 1, o1) :: ([] : List (Addr × Obj)), p ∈ base := fun p hp => subs p (List.mem_cons_of_mem _ (List.mem_cons_of_mem _ hp))
  rw [show (D2, LCg.lst ys2) :: (sa, listOf its2 nn) :: (D, LCg.lst ys) :: (fa, listOf its n0) :: (L + 1 + 1 + 1 + 1 + 1, o5) :: (L + 1 + 1 + 1 + 1, o4) :: (L + 1 + 1, o2) :: (L + 1, o1) :: (b, so) :: (x, instObj 188 dx) :: (dx, bmD w.params b c t1 t2 t3) :: tl = ((D2, LCg.lst ys2) :: (sa, listOf its2 nn) :: (D, LCg.lst ys) :: (fa, listOf its n0) :: (L + 1 + 1 + 1 + 1 + 1, o5) :: (L + 1 + 1 + 1 + 1, o4) :: (L + 1 + 1, o2) :: (L + 1, o1) :: []) ++ ((b, so) :: (x, instObj 188 dx) :: (dx, bmD w.params b c t1 t2 t3) :: tl) from rfl] at hp
  rcases List.mem_append.mp hp with hp | hp
  · exact up p (this p hp)
  · simp only [List.mem_cons, List.mem_append] at hp ⊢
    rcases hp with h | h | h | h <;> simp [h]
def plJ (p0 st : Nat) (base : List (Addr × Obj)) (i : Nat) (ys : List Value) (nw : List (Addr × Obj)) : Prop := nw = base ∧ IntsAre ys (plc p0 st i)
end Mine
end
section
open PySem PySem.W PyProof.Rows
set_option maxRecDepth 100000
namespace Mine
section
variable {prog : Program} {w : World} {A : Around} {E : Value → Shared → Prop} {s : Shared} {h₀ : Heap} {L : Addr} {m : Str → Option Value} {news : List (Addr × Obj)}
theorem asgPair {cn : Str} {cs : Scope} {a : Addr} {ccd : Value} {cl : List (Str × Addr)} {x y : Str} {px py pos : Pos} {k} {t c7 c6 I : Addr} {ot oI o7 o6 : Obj} {v1 v2 : Value} {v7 v6 : Option Value} {nt : Nat} {R : List (Addr × Obj)} {Q : Unit → Shared → Prop}
    (F : Fr h₀ L s.heap m) (N : News h₀ L s.heap ((I, oI) :: (c7, o7) :: (c6, o6) :: R)) (hh : A.handled = none) (ht : (t, ot) ∈ R) (hcls : ot.cls = .type "tuple") (hdata : ot.data = .seq #[v1, v2] nt) (d7 : o7.data = .cell v7) (d6 : o6.data = .cell v6)
    (i7 : I ≠ c7) (i6 : I ≠ c6) (c76 : c7 ≠ c6) (R7 : ∀ p ∈ R, p.1 ≠ c7) (R6 : ∀ p ∈ R, p.1 ≠ c6)
    (h : ∀ h' o7' o6', Fr h₀ L h' m → News h₀ L h' ((I, oI) :: (c7, o7') :: (c6, o6') :: R) → o7'.data = .cell (some v1) → o6'.data = .cell (some v2) → Q () { s with heap := h' })
    (hx : cl.lookup x = some c7) (hy : cl.lookup y = some c6) (hk : cs.kind = .function) (kx : (envX cn cs L a ccd cl).kindOf x = some .cell) (ky : (envX cn cs L a ccd cl).kindOf y = some .cell) :
    wpAny (model prog w) A (assign (.Tuple [.Name x px, .Name y py] k pos) (envX cn cs L a ccd cl) (.ref t)) Q E s := by
  refine unpackN_ (items := #[v1, v2]) F N ⟨ot, (N (t, ot) (List.mem_cons_of_mem _ (List.mem_cons_of_mem _ (List.mem_cons_of_mem _ ht)))).1, hcls, _, hdata⟩ hh rfl rfl fun h1 F1 N1 => ?_
  show wpAny _ _ (assignInOrder [assign (.Name x px) (envX cn cs L a ccd cl), assign (.Name y py) (envX cn cs L a ccd cl)] [v1, v2]) _ _ _
  refine assignInOrder_cons ?_
  refine wpAny_assign_Name (storeX_C (c := c7) (o := o7) F1 N1 hx (UpdF.tail i7 (UpdF.head ?_)) d7 (fun h2 o7' F2 N2 d7' => ?_) hk kx)
  · exact List.forall_mem_cons.mpr ⟨Ne.symm c76, R7⟩
  refine assignInOrder_cons ?_
  refine wpAny_assign_Name (storeX_C (c := c6) (o := o6) F2 N2 hy (UpdF.tail i6 (UpdF.tail c76 (UpdF.head R6))) d6 (fun h3 o6' F3 N3 d6' => ?_) hk ky)
  exact assignInOrder_nil (h h3 o7' o6' F3 N3 d7' d6')
theorem natSub {a b : Nat} {t u : Tok} {Q : Value → Shared → Prop} (hb : b ≤ a) (h : Q (.int ((a - b : Nat) : Int) s.toks) { s with toks := s.toks + 1 }) : wpAny (model prog w) A (binaryOp .Sub (.int (a : Nat) t) (.int (b : Nat) u)) Q E s :=
  PyProof.Rows.sub_int (by rw [Int.natCast_sub hb] at h; exact h)
theorem powB {a : Int} {k : Nat} {t u : Tok} {Q : Value → Shared → Prop} (hk : k ≤ 6) (hb : Builtin.Int.intBits a ≤ 2000000) (h : Q (.int (a ^ k) s.toks) { s with toks := s.toks + 1 }) : wpAny (model prog w) A (binaryOp .Pow (.int a t) (.int (k : Nat) u)) Q E s := by
  refine pow_int (by omega) ?_ (by rw [Int.toNat_natCast]; exact h)
  have h1 : Builtin.Int.intBits a * k ≤ 2000000 * 6 := Nat.mul_le_mul hb hk
  have h2 : (Builtin.Int.intBits a : Int) * (k : Nat) = ((Builtin.Int.intBits a * k : Nat) : Int) := by rw [Int.natCast_mul]
  rw [h2]; omega
theorem mulB {a b : Int} {k j : Nat} {t u : Tok} {Q : Value → Shared → Prop} (hk : k ≤ 6) (hj : j ≤ 6) (ha : Builtin.Int.intBits a ≤ 2000000) (hb : Builtin.Int.intBits b ≤ 2000000) (h : Q (.int (a ^ k * b ^ j) s.toks) { s with toks := s.toks + 1 }) : wpAny (model prog w) A (binaryOp .Mult (.int (a ^ k) t) (.int (b ^ j) u)) Q E s := by
  exact PyProof.Rows.mul_int h (IntMulOk.of_le (intBits_pow_le ha k) (intBits_pow_le hb j) (by have := Nat.mul_le_mul_left 2000000 hk; have := Nat.mul_le_mul_left 2000000 hj; omega))
theorem itemS_N {value slice : PySem.Expr} {l : Addr} {its : Array Value} {n k W : Nat} {u : Tok} {Q : Value → Shared → Prop} (N : News h₀ L s.heap news) (hm : (l, listOf its k) ∈ news) (hI : IntsAre its.toList (nats (szs n))) (hW : W < 2 ^ n) (hn : n ≤ 6) (h : ∀ t, Q (.int ((wt n W : Nat) : Int) t) s)
    (hs : subscripted slice false (.ref l) (.int W u) = operate [.ref l, .int W u] (getItem (.ref l) (.int W u)) := by with_unfolding_all rfl) :
    wpAny (model prog w) A (subscriptTail value slice (.ref l) (.int (W : Nat) u)) Q E s := by
  have h64 : W < 64 := Nat.lt_of_lt_of_le hW (Nat.pow_le_pow_right (n := 2) (by decide) hn)
  refine itemW_N N hm hI (by rw [szs_len]; exact hW) (by omega) (fun t => ?_) hs
  have e : (szs n).getD W 0 = wt n W := by rw [List.getD_eq_getElem?_getD, szs_at hW]; rfl
  rw [e]; exact h t
end
theorem lsum_snoc {ws : List Nat} {i W : Nat} {f : Nat → Int} (h : ws[i]? = some W) : lsum (ws.take (i + 1)) f = lsum (ws.take i) f + f W := by
  rw [List.take_add_one, h, lsum_app]; simp [lsum]
theorem ledger1 {h₀ h : Heap} {L : Addr} {tl R : List (Addr × Obj)} {e a b : Addr × Obj} (N : News h₀ L h (tl ++ e :: a :: b :: R)) : News h₀ L h (a :: b :: (tl ++ R)) :=
  News.sub' N fun p hp => by simp only [List.mem_cons, List.mem_append] at hp ⊢; rcases hp with h | h | h | h <;> simp [h]
theorem offs1 {tl R all : List (Addr × Obj)} {c : Addr} {o : Obj} (h : ∀ p ∈ tl, ∀ q ∈ all, @LT.lt Nat _ q.1 p.1) (hc : (c, o) ∈ all) (hR : ∀ p ∈ R, p.1 ≠ c) : ∀ p ∈ tl ++ R, p.1 ≠ c := by
  intro p hp
  rcases List.mem_append.mp hp with hp | hp
  · exact Nat.ne_of_gt (h p hp _ hc)
  · exact hR p hp
theorem bits_of {xs ns : List Int} (hl : (PyData.list (xs.map PyData.int)).layable0 = true) (h : ∀ x ∈ ns, x ∈ xs ∨ 0 ≤ x ∧ x < 2147483647) : ∀ x ∈ ns, Builtin.Int.intBits x ≤ 1048576 := by
  intro x hx
  rcases h x hx with h | h
  · exact intBits_le_of_item h hl
  · exact intBits_le_iff.mpr (Nat.lt_of_lt_of_le (m := 2 ^ 31) (by omega) (Nat.pow_le_pow_right (by decide) (by decide)))
theorem getD_mem9 {ns : List Int} {i : Nat} (h : ns.length = 9) (hi : i < 9) : ns.getD i 0 ∈ ns := by
  rw [List.getD_eq_getElem?_getD, List.getElem?_eq_getElem (by omega)]; exact List.getElem_mem _
def sgl (n : Nat) : List Nat := (List.range n).map (2 ^ ·)
theorem sgl_len (n : Nat) : (sgl n).length = n := by unfold sgl; rw [List.length_map, List.length_range]
theorem sgl_succ (n : Nat) : sgl (n + 1) = sgl n ++ [2 ^ n] := by unfold sgl; rw [List.range_succ, List.map_append]; rfl
theorem sgl_lt {n : Nat} : ∀ M ∈ sgl n, M < 2 ^ n := by
  intro M hM
  obtain ⟨k, hk, rfl⟩ := List.mem_map.mp hM
  exact Nat.pow_lt_pow_right (by decide) (List.mem_range.mp hk)
def sgJ (base : List (Addr × Obj)) (i : Nat) (ys : List Value) (nw : List (Addr × Obj)) : Prop := nw = base ∧ IntsAre ys (nats (sgl i))
theorem ledger2 {h₀ h : Heap} {L : Addr} {tl tl5 R : List (Addr × Obj)} {e1 e2 a b : Addr × Obj} (N : News h₀ L h (tl ++ e1 :: (tl5 ++ e2 :: a :: b :: R))) : News h₀ L h (a :: b :: (tl ++ R)) :=
  News.sub' N fun p hp => by simp only [List.mem_cons, List.mem_append] at hp ⊢; rcases hp with h | h | h | h <;> simp [h]
theorem in2 {tl5 R : List (Addr × Obj)} {e1 e2 a b q : Addr × Obj} (h : q ∈ a :: b :: R) : q ∈ e1 :: (tl5 ++ e2 :: a :: b :: R) := by
  simp only [List.mem_cons, List.mem_append] at h ⊢; rcases h with h | h | h <;> simp [h]
theorem masksAre_of' {mvs : List Value} {ms : List Nat} (h : IntsAre mvs (nats ms)) : MasksAre mvs.toArray ms := masksAre_of h
def mapJ (Ms : List Nat) (f : Nat → Nat) (base : List (Addr × Obj)) (i : Nat) (ys : List Value) (nw : List (Addr × Obj)) : Prop := nw = base ∧ IntsAre ys (nats ((Ms.take i).map f))
theorem map_snoc {Ms : List Nat} {f : Nat → Nat} {i M : Nat} {ys : List Value} {t : Tok} (h : Ms[i]? = some M) (hy : IntsAre ys (nats ((Ms.take i).map f))) : IntsAre (ys ++ [.int ((f M : Nat) : Int) t]) (nats ((Ms.take (i + 1)).map f)) := by
  rw [List.take_add_one, h, List.map_append, nats_app]
  exact IntsAre.snocE hy rfl
theorem bm_far {w : World} {tl R : List (Addr × Obj)} {v v' : Value} {b b' : Addr} {S S' : List Int} (h : BM w tl v b S) (h' : BM w R v' b' S') (f : ∀ p ∈ tl, ∀ q ∈ R, @LT.lt Nat _ q.1 p.1) : (b : Nat) ≠ b' := by
  obtain ⟨_, _, _, _, _, _, _, _, _, _, _, hb, _⟩ := h
  obtain ⟨_, _, _, _, _, _, _, _, _, _, _, hb', _⟩ := h'
  exact Nat.ne_of_gt (f _ hb _ hb')
section
variable {prog : Program} {w : World} {A : Around} {E : Value → Shared → Prop} {s : Shared} {h₀ : Heap} {L : Addr} {m : Str → Option Value} {env : Env}
open LCg LCt
theorem compT_ind {ct elt : Expr} {x : Str} {scope : Scope} {cl : List (Str × Addr)} {S : List (Addr × Obj) → Prop} {P : Nat → Value → Prop} {Fin : List Value → List (Addr × Obj) → Prop} {n : Nat} {news : List (Addr × Obj)}
    (J : Nat → List Value → List (Addr × Obj) → Prop) (h0 : J 0 [] news) (fin : ∀ ys nw, J n ys nw → Fin ys nw)
    (step : ∀ i ys nw v, i < n → J i ys nw → P i v → ∀ I oI C oC D m₂ h tk (E' : Value → Shared → Prop), NsObj oC m₂ → m₂ x = some v → Fr h₀ L h m → News h₀ L h ((I, oI) :: (C, oC) :: (D, lst ys) :: nw) → Off3 I C D nw → ((@Ne Nat I C) ∧ (@Ne Nat I D) ∧ (@Ne Nat C D)) →
      wpAny (model prog w) A (isTrue ct (compEnvC scope cl C env) (eval ct (compEnvC scope cl C env))) (fun ok s' => if ok = true then
        wpAny (model prog w) A (eval elt (compEnvC scope cl C env)) (CompEnd h₀ L m { s with heap := h, toks := tk } I oI C oC D (lst ys) S (fun y news' => J (i + 1) (ys ++ [y]) news')) E' s'
        else CompEnd h₀ L m { s with heap := h, toks := tk } I oI C oC D (lst ys) S (fun _ news' => J (i + 1) ys news') Value.none s') E' { s with heap := h, toks := tk }) :
    CompRestT prog w A h₀ L m env ct elt x scope cl s S P Fin n 0 [] news := by
  have key : ∀ k i ys nw, i + k = n → J i ys nw → CompRestT prog w A h₀ L m env ct elt x scope cl s S P Fin k i ys nw := by
    intro k
    induction k with
    | zero => intro i ys nw e hJ; exact CompRestT.zero (fin ys nw (by rw [← e]; exact hJ))
    | succ k ih =>
      intro i ys nw e hJ
      refine CompRestT.succ fun v I oI C oC D m₂ h tk E' hP hns hx F N off ne => ?_
      refine wpAny_mono (step i ys nw v (by omega) hJ hP I oI C oC D m₂ h tk E' hns hx F N off ne) (fun ok s₂ q => ?_) fun _ _ e => e
      split
      · rename_i hok
        rw [if_pos hok] at q
        refine wpAny_mono q (fun y s₃ q => ?_) fun _ _ e => e
        obtain ⟨h', tk', news', e1, F', N', off', hS, r⟩ := q
        exact ⟨h', tk', news', e1, F', N', off', hS, ih _ _ _ (by omega) r⟩
      · rename_i hok
        rw [if_neg hok] at q
        obtain ⟨h', tk', news', e1, F', N', off', hS, r⟩ := q
        exact ⟨h', tk', news', e1, F', N', off', hS, ih _ _ _ (by omega) r⟩
  exact key n 0 [] news (by omega) h0
end
/-- the odd ones -/
def oddJ (ss : List Nat) (base : List (Addr × Obj)) (i : Nat) (ys : List Value) (nw : List (Addr × Obj)) : Prop := nw = base ∧ IntsAre ys (nats ((ss.take i).filter fun q => q % 2 == 1))
theorem odd_snoc {ss : List Nat} {i q : Nat} {ys : List Value} {t : Tok} (h : ss[i]? = some q) (ho : q % 2 = 1) (hy : IntsAre ys (nats ((ss.take i).filter fun q => q % 2 == 1))) : IntsAre (ys ++ [.int ((q : Nat) : Int) t]) (nats ((ss.take (i + 1)).filter fun q => q % 2 == 1)) := by
  rw [List.take_add_one, h, List.filter_append, nats_app]
  have : (Option.some q).toList.filter (fun q => q % 2 == 1) = [q] := by simp [ho]
  rw [this]
  exact IntsAre.snocE hy rfl
theorem odd_skip {ss : List Nat} {i q : Nat} {ys : List Value} (h : ss[i]? = some q) (ho : q % 2 ≠ 1) (hy : IntsAre ys (nats ((ss.take i).filter fun q => q % 2 == 1))) : IntsAre ys (nats ((ss.take (i + 1)).filter fun q => q % 2 == 1)) := by
  rw [List.take_add_one, h, List.filter_append]
  have : (Option.some q).toList.filter (fun q => q % 2 == 1) = [] := by simp [ho]
  rw [this, List.append_nil]
  exact hy
theorem even_iff {n W : Nat} {ms : List Nat} : evenAll n W ms ↔ (ms.map fun M => wt n (W &&& M)).filter (fun q => q % 2 == 1) = [] := by
  unfold evenAll
  rw [List.filter_eq_nil_iff]
  constructor
  · intro h q hq
    obtain ⟨M, hM, rfl⟩ := List.mem_map.mp hq
    have := h M hM
    simpa using this
  · intro h M hM
    have := h _ (List.mem_map.mpr ⟨M, hM, rfl⟩)
    simpa using this
/-- the second loop -/
def l2J (m₀ : Str → Option Value) (L : Addr) (R : List (Addr × Obj)) (ws : List Nat) (f : Nat → Int) (i : Nat) (m : Str → Option Value) (nw : List (Addr × Obj)) : Prop :=
  (∀ y, y ∉ [Str.ofString "shares", Str.ofString "right"] → m y = m₀ y) ∧ ∃ o7 o6 v7 v6 tk, nw = (L + 1 + 1 + 1 + 1 + 1 + 1 + 1, o7) :: (L + 1 + 1 + 1 + 1 + 1 + 1, o6) :: R ∧ o7.data = .cell v7 ∧ o6.data = .cell v6 ∧ m (Str.ofString "right") = some (.int (lsum (ws.take i) f) tk)
/-- the first loop -/
def l1J (m₀ : Str → Option Value) (L : Addr) (R : List (Addr × Obj)) (ws : List Nat) (f : Nat → Int) (i : Nat) (m : Str → Option Value) (nw : List (Addr × Obj)) : Prop :=
  (∀ y, y ∉ [Str.ofString "wide", Str.ofString "left"] → m y = m₀ y) ∧ ∃ o7 o6 v7 v6 tk, nw = (L + 1 + 1 + 1 + 1 + 1 + 1 + 1, o7) :: (L + 1 + 1 + 1 + 1 + 1 + 1, o6) :: R ∧ o7.data = .cell v7 ∧ o6.data = .cell v6 ∧ m (Str.ofString "left") = some (.int (lsum (ws.take i) f) tk)
end Mine
end
section
open PySem PySem.W PyProof.Rows
namespace Mine
local macro_rules | `(tactic| walk_at "pad 0") => `(tactic| skip)
local macro_rules | `(tactic| walk_at "pad 1") => `(tactic| skip)
local macro_rules | `(tactic| walk_at "pad 2") => `(tactic| skip)
local macro_rules | `(tactic| walk_at "pad 3") => `(tactic| skip)
local macro_rules | `(tactic| walk_at "pad 4") => `(tactic| skip)
local macro_rules | `(tactic| walk_at "pad 5") => `(tactic| skip)
local macro_rules | `(tactic| walk_at "pad 6") => `(tactic| skip)
local macro_rules | `(tactic| walk_at "pad 7") => `(tactic| skip)
local macro_rules | `(tactic| walk_at "pad 8") => `(tactic| skip)
local macro_rules | `(tactic| walk_at "pad 9") => `(tactic| skip)
local macro_rules | `(tactic| walk_at "pad 10") => `(tactic| skip)
local macro_rules | `(tactic| walk_at "pad 11") => `(tactic| skip)
local macro_rules | `(tactic| walk_at "pad 12") => `(tactic| skip)
local macro_rules | `(tactic| walk_at "pad 13") => `(tactic| skip)
local macro_rules | `(tactic| walk_at "pad 14") => `(tactic| skip)
local macro_rules | `(tactic| walk_at "pad 15") => `(tactic| skip)
local macro_rules | `(tactic| walk_at "pad 16") => `(tactic| skip)
local macro_rules | `(tactic| walk_at "pad 17") => `(tactic| skip)
local macro_rules | `(tactic| walk_at "pad 18") => `(tactic| skip)
local macro_rules | `(tactic| walk_at "pad 19") => `(tactic| skip)
local macro_rules | `(tactic| walk_at "pad 20") => `(tactic| skip)
local macro_rules | `(tactic| walk_at "pad 21") => `(tactic| skip)
local macro_rules | `(tactic| walk_at "pad 22") => `(tactic| skip)
local macro_rules | `(tactic| walk_at "pad 23") => `(tactic| skip)
local macro_rules | `(tactic| k_room) => `(tactic| ktr_room)
local macro_rules | `(tactic| k_units) => `(tactic| ktr_units)
local macro_rules | `(tactic| walk_at "call type:set nil nil") => `(tactic| (k_here; k_dflt (refine setNew_N (by k_asm) (by k_asm) ?_); intro d' h' so' F' N' l1 hs'; (try k_lt l1)))
local macro_rules | `(tactic| walk_at "getMethod ref") => `(tactic| (k_here; (with_reducible show wpAny _ _ (getMethod (Value.ref _) (Str.ofString "add") _) _ _ _); k_dflt (refine' setMeth_N ?N ?a ?s ?_; (case N => k_asm); (case a => k_mem); (case s => assumption))))
local macro_rules | `(tactic| walk_at "call builtin:len") => `(tactic| (k_here; (with_reducible show wpAny _ _ (call (Value.builtin "len") [Value.ref _]) _ _ _); k_dflt (refine' setLen_N ?N ?a ?s ?_; (case N => k_asm); (case a => k_mem); (case s => assumption)); (try dsimp only)))
local macro_rules | `(tactic| walk_at "exec For") => `(tactic| (k_here; refine halt ?_))
local macro_rules | `(tactic| walk_at "exec For Name Call cons nil") => `(tactic| (k_here; refine halt ?_))
local macro_rules | `(tactic| walk_at "exec For Name Name cons nil") => `(tactic| (k_here; refine halt ?_))
local macro_rules | `(tactic| walk_at "exec For Name Attribute cons nil") => `(tactic| (k_here; refine halt ?_))
local macro_rules | `(tactic| walk_at "exec For Tuple Name cons nil") => `(tactic| (k_here; refine halt ?_))
local macro_rules | `(tactic| walk_at "exec For Tuple Call cons nil") => `(tactic| (k_here; refine halt ?_))
local macro_rules | `(tactic| walk_at "exec While") => `(tactic| (k_here; refine halt ?_))
local macro_rules | `(tactic| walk_at "call builtin:len") => `(tactic| (k_here; (with_reducible show wpAny _ _ (call (Value.builtin "len") [Value.ref _]) _ _ _); k_dflt (refine' KM.len_K ?N ?m ?s ?f ?_; (case N => k_asm); (case m => k_mem); (case s => first | assumption | exact (Array.size_push _).trans (congrArg Nat.succ (by assumption))); (case f => omega)); (try dsimp only)))
local macro_rules | `(tactic| walk_at "call type:range") => `(tactic| (k_here; k_dflt (refine' range_N ?F ?N ?_; (case F => k_asm); (case N => k_asm)); intro r' h' tk' t1' u1' v1' R' F' N'; (try dsimp only)))
local macro_rules | `(tactic| walk_at "binaryOp Pow int int") => `(tactic| (k_here; (with_reducible refine natPow ?a ?_; (case a => omega)); (try dsimp only)))
local macro_rules | `(tactic| walk_at "binaryOp FloorDiv int int") => `(tactic| (k_here; (with_reducible refine natDivPow ?a ?_; (case a => omega)); (try dsimp only)))
local macro_rules | `(tactic| walk_at "binaryOp Mod int int") => `(tactic| (k_here; (with_reducible refine natMod2 ?_); (try dsimp only)))
local macro_rules | `(tactic| walk_at "call builtin:set.add") => `(tactic| (k_here; (with_reducible show wpAny _ _ (call (Value.builtin "set.add") [Value.ref _, Value.int _ _]) _ _ _); k_dflt (refine' setAdd_N ?F ?N ?U ?s ?r ?k ?_; (case F => k_asm); (case N => k_asm); (case U => k_updF); (case s => assumption); (case r => omega); (case k => assumption)); intro h' o' ks' F' N' s' p'; (try dsimp only at N')))
local macro_rules | `(tactic| walk_at "eval ListComp") => `(tactic| (k_here; refine halt ?_))
local macro_rules | `(tactic| walk_at "exec Assign cons ListComp") => `(tactic| (k_here; refine halt ?_))
local macro_rules | `(tactic| walk_at "SrcLP") => `(tactic| (k_here; refine halt ?_))
local macro_rules | `(tactic| walk_at "CompSrc") => `(tactic| (k_here; refine halt ?_))
local macro_rules | `(tactic| walk_at "CompEnd") => `(tactic| (k_here; refine halt ?_))
local macro_rules | `(tactic| walk_at "binaryOp BitXor") => `(tactic| (k_here; (with_reducible show wpAny _ _ (binaryOp _ (Value.ref _) (Value.ref _)) _ _ _); k_dflt (refine' binop_K ?k1 ?k2 ?k3 ?k4 ?k5 ?k6 ?k7 ?_; (case k1 => k_asm); (case k2 => k_asm); (case k3 => k_inst); (case k4 => k_typeOf); (case k5 => k_is); (case k6 => k_is); (case k7 => k_is); k_whole)))
local macro_rules | `(tactic| walk_at "binaryOp BitXor int int") => `(tactic| (k_here; (with_reducible refine natXor ?_); (try dsimp only)))
local macro_rules | `(tactic| walk_at "subscriptTail") => `(tactic| (k_here; (with_reducible show wpAny _ _ (subscriptTail _ _ (Value.ref _) (Value.int _ _)) _ _ _); k_dflt (refine' itemL_N ?N ?m ?i ?x ?_; (case N => k_asm); (case m => k_mem); (case x => assumption); (case i => omega))))
local macro_rules | `(tactic| walk_at "binaryOp Add ref ref") => `(tactic| (k_here; (with_reducible show wpAny _ _ (binaryOp _ (Value.ref _) (Value.ref _)) _ _ _); k_dflt (refine' addL_N ?F ?N ?a ?b ?z ?_; (case F => k_asm); (case N => k_asm); (case a => k_mem); (case b => k_mem); (case z => first | assumption | omega)); intro D' h' F' N' l1; (try k_lt l1)))
local macro_rules | `(tactic| k_mem) => `(tactic| first | ktr_member | with_reducible assumption | exact List.mem_cons_self | ((with_reducible refine List.mem_cons_of_mem _ ?_); k_mem) | ((with_reducible refine List.mem_append_left _ ?_); k_mem) | ((with_reducible refine List.mem_append_right _ ?_); k_mem))
local macro_rules | `(tactic| walk_at "call builtin:list.append") => `(tactic| (k_here; (with_reducible show wpAny _ _ (call (Value.builtin _) [Value.ref _, _]) _ _ _); k_dflt (refine' append_K ?k1 ?k2 ?k3 ?_ ?z; (case k1 => k_asm); (case k2 => k_asm); (case k3 => first | k_upd | exact Upd.head (by assumption)); (case z => exact Nat.le_trans (m := 16384) (by omega) (by decide))); intro h' F' N'))
local macro_rules | `(tactic| walk_at "exec While Compare") => `(tactic| (k_here; refine halt ?_))
local macro_rules | `(tactic| walk_at "exec While BoolOp") => `(tactic| (k_here; refine halt ?_))
local macro_rules | `(tactic| walk_at "binaryOp LShift int int") => `(tactic| (k_here; (first | (with_reducible refine natShl33 ?a ?_; (case a => omega)) | (with_reducible refine natShl1 ?a ?_; (case a => omega)) | (with_reducible refine zeroShl1 ?_)); (try dsimp only)))
local macro_rules | `(tactic| walk_at "binaryOp BitOr int int") => `(tactic| (k_here; (first | with_reducible refine natOr ?_ | with_reducible refine natOr0 ?_); (try dsimp only)))
local macro_rules | `(tactic| walk_at "call builtin:list.extend") => `(tactic| (k_here; (with_reducible show wpAny _ _ (call (Value.builtin _) [Value.ref _, Value.ref _]) _ _ _); k_dflt (refine' extL_N ?F ?N ?b ?U ?z ?_; (case F => k_asm); (case N => k_asm); (case b => k_mem); (case U => k_updF); (case z => first | omega | (simp only [Array.size_push]; omega))); intro h' n' F' N'; (try dsimp only at N')))

local macro_rules | `(tactic| walk_at "call ref") => `(tactic| (k_here; (with_reducible show wpAny _ _ (call (Value.ref 197) _) _ _ _); refine halt ?_))
local macro_rules | `(tactic| walk_at "call ref") => `(tactic| (k_here; (with_reducible show wpAny _ _ (call (Value.ref 204) _) _ _ _); refine halt ?_))
local macro_rules | `(tactic| walk_at "call ref") => `(tactic| (k_here; (with_reducible show wpAny _ _ (call (Value.ref 209) _) _ _ _); refine halt ?_))
local macro_rules | `(tactic| walk_at "call ref") => `(tactic| (k_here; (with_reducible show wpAny _ _ (call (Value.ref 136) _) _ _ _); refine halt ?_))
local macro_rules | `(tactic| walk_at "call ref") => `(tactic| (k_here; (with_reducible show wpAny _ _ (call (Value.ref 129) _) _ _ _); refine halt ?_))
local macro_rules | `(tactic| walk_at "call ref") => `(tactic| (k_here; (with_reducible show wpAny _ _ (call (Value.ref 164) _) _ _ _); refine halt ?_))
local macro_rules | `(tactic| walk_at "call ref") => `(tactic| (k_here; (with_reducible show wpAny _ _ (call (Value.ref 150) _) _ _ _); refine halt ?_))
local macro_rules | `(tactic| walk_at "binaryOp Mod int int") => `(tactic| (k_here; (with_reducible refine modPow ?_); (try dsimp only)))
local macro_rules | `(tactic| walk_at "subscriptTail Name Constant ref int") => `(tactic| (k_here; (with_reducible show wpAny _ _ (subscriptTail _ _ (Value.ref _) (Value.int 0 _)) _ _ _); k_dflt (refine' item0_N ?N ?m ?x ?_; (case N => k_asm); (case m => k_mem); (case x => assumption))))
local macro_rules | `(tactic| walk_at "binaryOp Pow int int") => `(tactic| (k_here; (with_reducible refine powB ?k ?b ?_); (case k => omega); (case b => assumption); (try dsimp only)))
local macro_rules | `(tactic| walk_at "binaryOp Sub int int") => `(tactic| (k_here; (with_reducible refine natSub ?b ?_); (case b => first | assumption | omega); (try dsimp only)))
local macro_rules | `(tactic| walk_at "binaryOp Mult int int") => `(tactic| (k_here; (with_reducible refine mulB ?k ?j ?a ?b ?_); (case k => omega); (case j => omega); (case a => assumption); (case b => assumption); (try dsimp only)))
local macro_rules | `(tactic| walk_at "subscriptTail Name Name ref int") => `(tactic| (k_here; (with_reducible show wpAny _ _ (subscriptTail _ _ (Value.ref _) (Value.int (Nat.cast _) _)) _ _ _); k_dflt (refine' itemS_N ?N ?m ?I ?i ?f ?_; (case N => k_asm); (case m => k_mem); (case I => assumption); (case i => assumption); (case f => assumption)); intro t'))
local macro_rules | `(tactic| walk_at "binaryOp BitAnd") => `(tactic| (k_here; (with_reducible show wpAny _ _ (binaryOp _ (Value.ref _) (Value.ref _)) _ _ _); k_dflt (refine' binop_K ?k1 ?k2 ?k3 ?k4 ?k5 ?k6 ?k7 ?_; (case k1 => k_asm); (case k2 => k_asm); (case k3 => k_inst); (case k4 => k_typeOf); (case k5 => k_is); (case k6 => k_is); (case k7 => k_is); k_whole)))
local macro_rules | `(tactic| walk_at "binaryOp BitAnd int int") => `(tactic| (k_here; (with_reducible refine natAnd ?_); (try dsimp only)))
local macro_rules | `(tactic| walk_at "subscriptTail Name BinOp ref int") => `(tactic| (k_here; (with_reducible show wpAny _ _ (subscriptTail _ _ (Value.ref _) (Value.int (Nat.cast _) _)) _ _ _); k_dflt (refine' itemS_N ?N ?m ?I ?i ?f ?_; (case N => k_asm); (case m => k_mem); (case I => assumption); (case i => exact Nat.lt_of_le_of_lt Nat.and_le_left (by assumption)); (case f => assumption)); intro t'))
local macro_rules | `(tactic| walk_at "CompSrcT") => `(tactic| (k_here; refine halt ?_))
local macro_rules | `(tactic| walk_at "truthy bytes") => `(tactic| (k_here; (with_reducible refine truthyEnc ?hc ?_); (case hc => (simp only [Array.size_append, beBytes_size, flat8_size] <;> omega))))
local macro_rules | `(tactic| walk_at "ite") => `(tactic| (k_here; refine halt ?_))
local macro_rules | `(tactic| walk_at "execs cons") => `(tactic| (k_here; (with_reducible show wpAny _ _ (execs (Stmt.If _ _ _ _ :: Stmt.Assign _ _ _ :: _) _) _ _ _); refine halt ?_))
set_option maxRecDepth 100000 in
set_option maxHeartbeats 8000000 in
theorem law_w : PySem.Challenge.rw_ft5007_01.Holds := by
  refine hd ?_
  w_strict (k_go0; (all_goals try k_fold); k_steps)
  unfold Halt
  rename World => w
  rename Shared => s1
  rename IntsAre _ _ => hI
  rename ¬ _ < ((List.length _ : Nat) : Int) => hc63
  k_dflt (refine' ln_c _ _ _ _ _ _ _ _ _ _ _ _ _ _ _ _ _ _ _ _ _ _ _ _ _ _ ?B0 ?F0 ?X0 ?N0 ?T0 ?hk0 ?dp0 ?un0 ?hl0 hI ?h63 ?_)
  case F0 => assumption
  case B0 => assumption
  case X0 => assumption
  case N0 => assumption
  case T0 => assumption
  case hk0 => rfl
  case dp0 => decide +kernel
  case un0 => decide +kernel
  case hl0 => assumption
  case h63 => omega
  intro fa its n0 ns h' tk' F' N' lf hfI hf9 hfx
  simp only [List.forall_mem_cons] at lf
  obtain ⟨lf1, lf2, lf3, lf4, lf5, lf6, lf7, -⟩ := lf
  replace lf1 := neN lf1; replace lf2 := neN lf2; replace lf3 := neN lf3; replace lf4 := neN lf4; replace lf5 := neN lf5; replace lf6 := neN lf6; replace lf7 := neN lf7
  k_steps
  obtain ⟨n, hn, hn1, hn6⟩ := n_of (ns.getD (Int.toNat 0) 0)
  obtain ⟨st, hst, hst1, hst70⟩ := st_of (ns.getD (Int.toNat 2) 0)
  obtain ⟨p0, hp0, hp64⟩ := p_of (ns.getD (Int.toNat 1) 0)
  rename Obj.data _ = Data.cell (some (Value.int (1 + (List.getD ns (Int.toNat 0) 0).fmod 6) _)) => dn
  rename Obj.data _ = Data.cell (some (Value.int (1 + (List.getD ns (Int.toNat 2) 0).fmod 70) _)) => dst
  rw [hn] at dn
  rw [hst] at dst
  unfold Halt
  k_dflt (refine wpAny_Assign_Name ?_)
  k_dflt (refine LCg.ListComp_U (F₀ := by k_asm) (by with_unfolding_all rfl) (by decide) (by rfl) (by decide) (by rfl) ?_)
  k_steps
  unfold Halt
  refine compRange0 rfl (by k_asm) (by k_asm) (by assumption) (by omega) ?_
  intro g1
  refine compU_ind (plJ p0 st _) ⟨rfl, .nil⟩ ?_ ?_
  · rintro ys nw ⟨rfl, hys⟩
    intro D h1 tk1 F1 N1 o1
    dsimp only [LCg.Off1] at o1
    k_steps
    unfold Halt
    refine For_range0F (by k_asm) rfl ?_
    k_steps
    unfold Halt
    refine ⟨_, _, _, _, _, _, _, szJ _ _ [_, _, _, _] [_, _, _, _], rfl, by k_asm, by k_asm, by assumption, by omega, ⟨fun _ _ => rfl, _, _, _, _, rfl, by assumption, by (simp only [List.cons_append, List.nil_append, AllLt, and_true]; omega), .cons 0 _ .nil⟩, ?_, ?_⟩
    · rintro k tk' I m₁ nw oI h tk hi ⟨hm, sa, its, nn, osz, rfl, hosz, hall, hI⟩ F₁ N₁ off₁
      have F₂ := Fr.at1 F₁ hm
      clear F₁ hm
      replace off₁ := off1_of off₁
      simp only [List.cons_append, List.nil_append] at N₁ hall off₁
      dsimp only [AllLt] at hall
      dsimp only [LCg.Off1] at off₁
      have hsl := szs_le (i := k) (by omega)
      have hsz : its.size = (szs k).length := by rw [← Array.length_toList, hI.length, List.length_map]
      k_dflt (refine wpAny_assign_Name (storeX_L F₂ N₁ ?_))
      intro h' F' N'
      k_steps
      unfold Halt
      k_dflt (refine LCg.ListComp_U (F₀ := by k_asm) (by with_unfolding_all rfl) (by decide) (by rfl) (by decide) (by rfl) ?_)
      k_steps
      unfold Halt
      refine LCg.CompSrc.ledger rfl (by k_asm) (by k_asm) (its := its) (k := nn) (by k_mem) (Nat.le_trans (show its.size ≤ 16384 by omega) (by decide)) ?_
      intro g1
      refine compU_ind (scJ (szs k) _) ⟨rfl, .nil⟩ ?_ ?_
      · rintro ys nw ⟨rfl, hys⟩
        intro D h1 tk1 F1 N1 o1
        dsimp only [LCg.Off1] at o1
        have hyl : ys.length = its.size := by rw [hys.length, List.length_map, List.length_map, List.length_take]; omega
        have hyt : ys.toArray.size = its.size := by rw [List.size_toArray]; exact hyl
        k_dflt (refine addL_N F1 N1 (its := its) (its2 := ys.toArray) (n := nn) (n2 := ys.length) (by k_mem) List.mem_cons_self (by omega) ?_)
        intro D8 h8 F8 N8 l8
        k_lt l8
        k_steps
        refine ForEnd.next (by k_asm) (by k_asm) (List.forall_mem_cons.mpr ⟨by k_mem, List.forall_mem_cons.mpr ⟨List.mem_cons_self, fun p hp => List.mem_cons_of_mem _ (List.mem_cons_of_mem _ (List.mem_cons_of_mem _ (List.mem_cons_of_mem _ hp)))⟩⟩) (off1_mem (by simp only [List.cons_append, List.nil_append, LCg.Off1, and_true]; omega)) ⟨fun y hy => (if_neg hy).trans (if_neg hy), _, _, _, _, rfl, by assumption, by (simp only [List.cons_append, List.nil_append, AllLt, and_true]; omega), ?_⟩
        rw [hsz, List.take_length] at hys
        rw [Array.toList_append, szs, nats_app]
        exact hI.append (by simpa using hys)
      · rintro i ys nw v hi ⟨rfl, hys⟩ hv I oI C oC D m₂ h6 tk6 E' hns hx1 F6 N6 off6 ne6
        obtain ⟨x, tx, rfl, hx⟩ := hI.at i v (by simpa using hv)
        obtain ⟨q, hq, rfl⟩ := nats_at hx
        k_steps
        unfold Halt
        refine LCg.CompEnd.intro F6 N6 _ (fun _ h => h) off6 (.inr ⟨_, by k_mem, rfl, _, rfl⟩) ⟨rfl, ?_⟩
        exact sc_snoc hq hys
    · rintro m' nw h tk ⟨hm, sa, its2, nn, osz, rfl, hosz, hall, hIs⟩ F₁ N₁
      have F₂ := Fr.at1 F₁ hm
      clear F₁ hm
      simp only [List.cons_append, List.nil_append] at N₁ hall
      dsimp only [AllLt] at hall
      have hzz : its2.size = (szs n).length := by rw [← Array.length_toList, hIs.length, List.length_map]
      k_steps
      unfold Halt
      k_dflt (refine LCg.Assign_ListComp_U (F₀ := by k_asm) (by rfl) (by with_unfolding_all rfl) (by with_unfolding_all rfl) (by decide) (by rfl) (by decide) (by rfl) (by rfl) (by rfl) ?_)
      k_steps
      rename IntsAre _ (List.take (min 6 (List.length ns) - 3) (List.drop 3 ns)) => hI3
      rename List.length (List.take (min 6 (List.length ns) - 3) (List.drop 3 ns)) = _ => hC3
      have hl3 : (List.take (min 6 ns.length - 3) (List.drop 3 ns)).length = 3 := by rw [hC3, hf9]; decide
      generalize List.take (min 6 ns.length - 3) (List.drop 3 ns) = xs3 at hI3 hl3
      have hw3 := hI3.length
      unfold Halt
      k_dflt (refine LCg.CompSrc.ledger rfl (by k_asm) (by k_asm) (k := 0) List.mem_cons_self (by rw [List.size_toArray]; exact Nat.le_trans (show _ ≤ 16384 by omega) (by decide)) ?_)
      intro g2
      refine compU_ind (mkJ n xs3 _) ⟨rfl, .nil⟩ ?_ ?_
      · rintro ys2 nw ⟨rfl, hys2⟩
        intro D2 h2 tk2 F2' N2 o2
        dsimp only [LCg.Off1] at o2
        rw [List.size_toArray, hw3, List.take_length] at hys2
        have hy2 := hys2.length
        rw [List.length_map, List.length_map, hl3] at hy2
        k_steps
        unfold Halt
        k_dflt (refine LCg.Assign_ListComp_U (F₀ := by k_asm) (by rfl) (by with_unfolding_all rfl) (by with_unfolding_all rfl) (by decide) (by rfl) (by decide) (by rfl) (by rfl) (by rfl) ?_)
        k_steps
        unfold Halt
        k_dflt (refine LCg.CompSrc.ledger rfl (by k_asm) (by k_asm) (its := ys2.toArray) (k := ys2.length) (by k_mem) (by rw [List.size_toArray]; exact Nat.le_trans (show _ ≤ 16384 by omega) (by decide)) ?_)
        intro g3
        refine compU_ind (stJ w (plc p0 st n) _ (xs3.map (mk n))) ⟨[], rfl, (fun _ h => nomatch h), rfl, fun _ _ _ h => (nomatch h)⟩ ?_ ?_
        · rintro ys3 nw ⟨tl, rfl, htl, hsets⟩
          intro D3 h3 tk3 F3 N3 o3
          have o3' := off1_mem o3
          k_steps
          unfold Halt
          obtain ⟨x0, x1, x2, rfl⟩ : ∃ x0 x1 x2 : Int, xs3 = [x0, x1, x2] := by
            match xs3, hl3 with
            | [x0, x1, x2], _ => exact ⟨x0, x1, x2, rfl⟩
          rw [show (List.map (mk n) [x0, x1, x2]).take ys2.toArray.size = [mk n x0, mk n x1, mk n x2] from by rw [List.size_toArray, hy2]; rfl] at hsets
          have hs3 : ys3.toArray.size = 3 := hsets.1
          refine execs_ifC (F₀ := by k_asm) w (plc p0 st n) D3 (lawR n s1.heap.objs.size fa D sa D2 its its2 n0 nn ys ys2) [mk n x0, mk n x1, mk n x2] ?_ ?_
          · k_steps
            unfold Halt
            refine ite_two (fun hodd => ?_) (fun hev => ?_)
            · obtain ⟨v0, hv0⟩ : ∃ v, ys3.toArray[0]? = some v := ⟨_, Array.getElem?_eq_getElem (by omega)⟩
              obtain ⟨b0, hb0⟩ := hsets.2 0 v0 (mk n x0) hv0 rfl
              obtain ⟨y0, dy0, _, _, _, _, _, _, rfl, hm0, hm0', hm0'', _⟩ := id hb0
              dsimp only [LCg.lst] at N3
              have hS0 : (sel (plc p0 st n) (mk n x0)).length ≤ 6 := by have := sel_len (plc p0 st n) (mk n x0); rw [plc_len] at this; omega
              k_steps
              unfold Halt
              k_dflt (refine' Calls.use (en_c w y0 b0 (sel (plc p0 st n) (mk n x0)) hS0 (fun z hz => plc_bd hp64 hst70 hn6 z ((sel_subl _ _).subset hz))) ?B1 ?F1 ?X1 ?N1 ?T1 ?hk1 ?dp1 ?un1 ?pre1 ?_)
              (case F1 => k_asm)
              (case B1 => k_asm)
              (case X1 => k_asm)
              (case N1 => k_asm)
              (case T1 => k_asm)
              (case hk1 => rfl)
              (case pre1 => exact hb0.mono fun p hp => List.mem_cons_of_mem _ (List.mem_append_left _ hp))
              (case dp1 => k_room)
              (case un1 => k_units)
              rintro r9 news9 h9 tk9 F9 N9 ⟨rfl, bs, tb, rfl, hEnc⟩
              obtain ⟨bc, cw, W, rfl, hcod, hcw, hbc, hW7, hc64, hSW⟩ := hEnc.dec
              k_steps
              unfold Halt
              refine ite_two (fun _ => ?_) (fun h => absurd rfl h)
              k_steps
              unfold Halt
              rename SetIs w _ [] => hso
              k_dflt (refine' Calls.use (de_c w _ _ _ _ _ _ _ _ _ _ (sel (plc p0 st n) (mk n x0)) bc cw W hS0 hcod hcw hbc hW7 hc64 hSW hso ?lr ?l1 ?l2) ?B2 ?F2 ?X2 ?N2 ?T2 ?hk2 ?dp2 ?un2 ?pre2 ?_)
              (case F2 => k_asm)
              (case N2 => k_asm)
              (case pre2 => exact rfl)
              (case lr => exact allLt_mem (by assumption))
              (case l1 => omega)
              (case l2 => omega)
              (case B2 => k_asm)
              (case X2 => k_asm)
              (case T2 => k_asm)
              (case hk2 => rfl)
              (case dp2 => k_room)
              (case un2 => k_units)
              rintro r8 news8 h8 tk8 F8 N8 ⟨so8, ks8, c8, t8, rfl, hs8, hm8⟩
              k_steps
              have gall := allLt_mem (D := _) (l := (D3, LCg.lst ys3) :: (tl ++ _)) (by assumption)
              k_dflt (refine' setV0_N ?F5 ?N5 (UpdF.tail (neN ?u1) (UpdF.tail (neN ?u2) (UpdF.tail (neN ?u3) (UpdF.head o3')))) ?z5 ?_)
              (case F5 => k_asm)
              (case N5 => k_asm)
              (case u1 => dsimp only; omega)
              (case u2 => dsimp only; omega)
              (case u3 => dsimp only; omega)
              (case z5 => omega)
              intro h5 F5 N5
              dsimp only at N5
              k_steps
              refine' mkIf3 (t := ?tt) ?F6 N5 gall ?hx6 ?hb6 htl hs8 hm8 hsets ?sb ?d7 ?d6 ?d5 ?d4 ?d2 ?d1 ?g7 ?g6
              case F6 => k_asm
              case sb => exact forall_cons2 (by k_mem) (forall_cons2 (by k_mem) (forall_cons2 (by k_mem) (forall_cons2 (by k_mem) (forall_cons2 (by k_mem) (forall_cons2 (by k_mem) (forall_cons2 (by k_mem) (forall_cons2 (by k_mem) (forall_cons2 (by k_mem) (forall_cons2 (by k_mem) fun _ h => nomatch h)))))))))
              case d7 => assumption
              case d6 => assumption
              case d5 => assumption
              case d4 => assumption
              case d2 => exact dn
              case d1 => assumption
              case hx6 => omega
              case hb6 => omega
              case g7 => have z3 := neN (o3' (s1.heap.objs.size + 1 + 1 + 1 + 1 + 1 + 1 + 1, _) (List.mem_append_right _ (by k_mem))); omega
              case g6 => have z3 := neN (o3' (s1.heap.objs.size + 1 + 1 + 1 + 1 + 1 + 1, _) (List.mem_append_right _ (by k_mem))); omega
            · k_steps
              refine' mkIf (ext := tl) (t := ?tt) F3 N3 ?sb ?d7 ?d6 ?d5 ?d4 ?d2 ?d1 ?g7 ?g6 ?x7 ?x6 hsets
              case sb => exact forall_cons2 (by k_mem) (forall_cons2 (by k_mem) (forall_cons2 (by k_mem) (forall_cons2 (by k_mem) (forall_cons2 (by k_mem) (forall_cons2 (by k_mem) (forall_cons2 (by k_mem) (forall_cons2 (by k_mem) (forall_cons2 (by k_mem) (forall_cons2 (by k_mem) (forall_cons2 (by k_mem) fun p hp => List.mem_cons_of_mem _ (List.mem_append_left _ hp)))))))))))
              case d7 => assumption
              case d6 => assumption
              case d5 => assumption
              case d4 => assumption
              case d2 => exact dn
              case d1 => assumption
              case g7 => have z3 := neN (o3' (s1.heap.objs.size + 1 + 1 + 1 + 1 + 1 + 1 + 1, _) (List.mem_append_right _ (by k_mem))); omega
              case g6 => have z3 := neN (o3' (s1.heap.objs.size + 1 + 1 + 1 + 1 + 1 + 1, _) (List.mem_append_right _ (by k_mem))); omega
              case x7 => exact fun p hp => Nat.ne_of_gt (htl p hp (s1.heap.objs.size + 1 + 1 + 1 + 1 + 1 + 1 + 1, _) (by k_mem))
              case x6 => exact fun p hp => Nat.ne_of_gt (htl p hp (s1.heap.objs.size + 1 + 1 + 1 + 1 + 1 + 1, _) (by k_mem))
          · intro h7 tk7 R vs n3 F7 ⟨o7, o6, v7, v6, N7, d7, d6, off7, off6⟩ hD3 hsetsR ⟨hRm, hRs, hRp, hRf, ⟨o5, h5, d5⟩, ⟨o4, h4, d4⟩, ⟨o2, t2, h2, d2⟩, ⟨o1, h1, d1⟩⟩
            have hpl6 : (plc p0 st n).length ≤ 6 := by rw [plc_len]; exact hn6
            have hplN := plc_nodup (p0 := p0) (n := n) hst1
            have hml : ∀ M ∈ [mk n x0, mk n x1, mk n x2], M < 2 ^ n := by
              intro M hM
              simp only [List.mem_cons, List.not_mem_nil, or_false] at hM
              rcases hM with rfl | rfl | rfl <;> exact mk_lt _ _
            have h26 : 2 ^ n ≤ 2 ^ 6 := Nat.pow_le_pow_right (by decide) hn6
            k_steps
            unfold Halt
            refine For_listF (by k_asm) ?_
            k_steps
            unfold Halt
            k_dflt (refine' Calls.use (la_c w D3 D2 vs ys2.toArray n3 ys2.length (plc p0 st n) [mk n x0, mk n x1, mk n x2] hpl6 hplN (show 3 ≤ 6 by decide) (fun M hM => Nat.lt_of_lt_of_le (hml M hM) h26) (masksAre_of hys2)) ?B3 ?F3 ?X3 ?N3 ?T3 ?hk3 ?dp3 ?un3 ?pre3 ?_)
            (case F3 => k_asm)
            (case B3 => k_asm)
            (case X3 => k_asm)
            (case N3 => k_asm)
            (case T3 => k_asm)
            (case hk3 => rfl)
            (case pre3 => exact ⟨by k_mem, by k_mem, hsetsR.mono fun p hp => by k_mem⟩)
            (case dp3 => k_room)
            (case un3 => k_units)
            rintro r9 news9 h9 tk9 F9 N9 ⟨tl1, wa, wit, wn, rfl, rfl, htl1, hwa, hP⟩
            have gR7 := offs1 (R := R) htl1 (List.mem_cons_of_mem _ List.mem_cons_self) off7
            have gR6 := offs1 (R := R) htl1 (List.mem_cons_of_mem _ (List.mem_cons_of_mem _ List.mem_cons_self)) off6
            have N10 := ledger1 N9
            replace hRm := List.mem_append_right tl1 hRm
            replace hRs := List.mem_append_right tl1 hRs
            replace hRp := List.mem_append_right tl1 hRp
            replace hRf := List.mem_append_right tl1 hRf
            replace h5 := List.mem_append_right tl1 h5
            replace h4 := List.mem_append_right tl1 h4
            replace h2 := List.mem_append_right tl1 h2
            replace h1 := List.mem_append_right tl1 h1
            replace hD3 := List.mem_append_right tl1 hD3
            replace hsetsR := hsetsR.mono (fun p hp => List.mem_append_right tl1 hp)
            replace hwa := List.mem_append_left R hwa
            have hP1 := hP.mono (fun p hp => List.mem_append_left R hp)
            clear N9 hP htl1
            generalize tl1 ++ R = R1 at *
            rename PyData.layable0 (PyData.list (List.map PyData.int _)) = true => hlay
            have hbits := bits_of hlay hfx
            have hbX := hbits _ (getD_mem9 (i := Int.toNat 7) hf9 (by decide))
            have hbY := hbits _ (getD_mem9 (i := Int.toNat 8) hf9 (by decide))
            have hbX2 : Builtin.Int.intBits (ns.getD (Int.toNat 7) 0) ≤ 2000000 := Nat.le_trans hbX (by decide)
            have hbY2 : Builtin.Int.intBits (ns.getD (Int.toNat 8) 0) ≤ 2000000 := Nat.le_trans hbY (by decide)
            have hbS : Builtin.Int.intBits (ns.getD (Int.toNat 7) 0 + ns.getD (Int.toNat 8) 0) ≤ 2000000 := Nat.le_trans (intBits_add_le hbX hbY) (by decide)
            have hbD : Builtin.Int.intBits (ns.getD (Int.toNat 7) 0 - ns.getD (Int.toNat 8) 0) ≤ 2000000 := Nat.le_trans (intBits_sub_le hbX hbY) (by decide)
            refine ⟨wa, wit, _, _, l1J _ s1.heap.objs.size R1 (allM [mk n x0, mk n x1, mk n x2]) (fun W => (ns.getD (Int.toNat 7) 0 + ns.getD (Int.toNat 8) 0) ^ (n - wt n W) * (ns.getD (Int.toNat 7) 0 - ns.getD (Int.toNat 8) 0) ^ wt n W), rfl, rfl, by k_asm, N10, .inr ⟨listOf wit wn, by k_mem, rfl, _, rfl⟩, ⟨fun _ _ => rfl, o7, o6, v7, v6, _, rfl, d7, d6, rfl⟩, ?_, ?_, ?_⟩
            · rintro i m nw ⟨_, _, _, _, _, _, rfl, _⟩
              exact .inr ⟨listOf wit wn, by k_mem, rfl, _, rfl⟩
            · rintro i v I m₁ nw oI h tk hv ⟨hm1, q7, q6, u7, u6, tlf, rfl, e7, e6, hleft⟩ F₁ N₁ off₁
              obtain ⟨W, hW⟩ : ∃ W, (allM [mk n x0, mk n x1, mk n x2])[i]? = some W := by
                refine ⟨_, List.getElem?_eq_getElem ?_⟩
                rw [← hP1.1]; exact (Array.getElem?_eq_some_iff.mp hv).1
              obtain ⟨t9, ot9, bv9, tk9', nt9, b9, rfl, hm9, hcls9, hdata9, hB9⟩ := hP1.2 i v W hv hW
              obtain ⟨y9, hy9⟩ : ∃ y, bv9 = .ref y := by obtain ⟨y, _, _, _, _, _, _, _, e, _⟩ := hB9; exact ⟨y, e⟩
              subst hy9
              obtain ⟨_, dy9, _, _, _, _, _, _, ey9, hm9a, hm9b, hm9c, _⟩ := id hB9
              cases ey9
              have hWn : W < 2 ^ n := allM_lt hml W (List.mem_of_getElem? hW)
              have hwt := wt_le n W
              have F₂ := Fr.ov F₁ hm1
              dsimp only [ov] at F₂
              rw [hleft] at F₂
              clear F₁
              have i7 := off₁ _ List.mem_cons_self
              have i6 := off₁ _ (List.mem_cons_of_mem _ List.mem_cons_self)
              have iR : ∀ p ∈ R1, p.1 ≠ I := fun p hp => off₁ p (List.mem_cons_of_mem _ (List.mem_cons_of_mem _ hp))
              k_dflt (refine asgPair F₂ N₁ rfl hm9 hcls9 hdata9 e7 e6 (Ne.symm i7) (Ne.symm i6) (neN (by omega)) gR7 gR6 ?_ (by rfl) (by rfl) (by rfl) (by rfl) (by rfl))
              intro h' p7 p6 F' N' z7 z6
              k_steps
              unfold Halt
              k_dflt (refine' Calls.use (len_sel (w := w) (x := y9) (b := b9) (pl := plc p0 st n) (W := W) hplN) ?B4 ?F4 ?X4 ?N4 ?T4 ?hk4 ?dp4 ?un4 ?pre4 ?_)
              (case F4 => k_asm)
              (case B4 => k_asm)
              (case X4 => k_asm)
              (case N4 => k_asm)
              (case T4 => k_asm)
              (case hk4 => rfl)
              (case pre4 => exact hB9.mono fun p hp => List.mem_cons_of_mem _ (List.mem_cons_of_mem _ (List.mem_cons_of_mem _ hp)))
              (case dp4 => k_room)
              (case un4 => k_units)
              rintro r4 news4 h4 tk4 F4 N4 ⟨rfl, t4, rfl⟩
              rw [sel_wt, plc_len]
              dsimp only [PySem.W.LenBack]
              k_steps
              unfold Halt
              refine ite_two (fun hne => absurd hne (by simp)) (fun _ => ?_)
              k_steps
              refine ForEnd.next (by k_asm) (by k_asm) (fun _ h => h) ?_ ⟨fun y hy => ?_, _, _, _, _, _, rfl, z7, z6, by rw [lsum_snoc hW]; rfl⟩
              · exact forall_cons2 (Ne.symm (Ne.symm i7)) (forall_cons2 (Ne.symm (Ne.symm i6)) iR)
              · simp only [List.mem_cons, List.not_mem_nil, or_false, not_or] at hy
                simp only [if_neg hy.1, if_neg hy.2]
            · rintro m' nw h tk ⟨hm1, q7, q6, u7, u6, tlf, rfl, e7, e6, hleft⟩ F₁ N₁
              have F₂ := Fr.ov F₁ hm1
              dsimp only [ov] at F₂
              rw [hleft] at F₂
              clear F₁
              rw [hP1.1, List.take_length] at F₂
              k_steps
              unfold Halt
              k_dflt (refine LCg.Assign_ListComp_U (F₀ := by k_asm) (by rfl) (by with_unfolding_all rfl) (by with_unfolding_all rfl) (by decide) (by rfl) (by decide) (by rfl) (by rfl) (by rfl) ?_)
              k_steps
              unfold Halt
              refine compRange0 rfl (by k_asm) (by k_asm) (by assumption) (by omega) ?_
              intro g1
              refine compU_ind (sgJ _) ⟨rfl, .nil⟩ ?_ ?_
              · rintro ys4 nw ⟨rfl, hys4⟩
                intro D4 h1 tk1 F1 N1 o1
                have hy4 := hys4.length
                rw [List.length_map, sgl_len] at hy4
                dsimp only [LCg.Off1] at o1
                k_steps
                unfold Halt
                refine For_listF (by k_asm) ?_
                k_steps
                unfold Halt
                k_dflt (refine LCg.ListComp_U (F₀ := by k_asm) (by with_unfolding_all rfl) (by decide) (by rfl) (by decide) (by rfl) ?_)
                k_steps
                try unfold Halt
                k_dflt (refine LCg.CompSrc.ledger rfl (by k_asm) (by k_asm) (its := ys4.toArray) (k := ys4.length) (by k_mem) (by rw [List.size_toArray]; exact Nat.le_trans (show _ ≤ 16384 by omega) (by decide)) ?_)
                intro g3
                refine compU_ind (stJ w (plc p0 st n) _ (sgl n)) ⟨[], rfl, (fun _ h => nomatch h), rfl, fun _ _ _ h => (nomatch h)⟩ ?_ ?_
                · rintro ys5 nw ⟨tl5, rfl, htl5, hsets5⟩
                  intro D5 h5' tk5 F5 N5 o5'
                  rw [List.size_toArray, hy4, List.take_of_length_le (Nat.le_of_eq (sgl_len n))] at hsets5
                  k_steps
                  try unfold Halt
                  k_dflt (refine' Calls.use (la_c w D5 D4 ys5.toArray ys4.toArray ys5.length ys4.length (plc p0 st n) (sgl n) hpl6 hplN (by rw [sgl_len]; exact hn6) (fun M hM => Nat.lt_of_lt_of_le (sgl_lt M hM) h26) (masksAre_of hys4)) ?B6 ?F6 ?X6 ?N6 ?T6 ?hk6 ?dp6 ?un6 ?pre6 ?_)
                  (case F6 => k_asm)
                  (case B6 => k_asm)
                  (case X6 => k_asm)
                  (case N6 => k_asm)
                  (case T6 => k_asm)
                  (case hk6 => rfl)
                  (case pre6 => exact ⟨by k_mem, by k_mem, hsets5.mono fun p hp => List.mem_cons_of_mem _ (List.mem_append_left _ hp)⟩)
                  (case dp6 => k_room)
                  (case un6 => k_units)
                  rintro r8 news8 h8 tk8 F8 N8 ⟨tl2, wa2, wit2, wn2, rfl, rfl, htl2, hwa2, hP2⟩
                  rw [show allM (sgl n) = List.range (2 ^ n) from allM_single n] at hP2
                  have N20 := ledger2 N8
                  have fR : ∀ p ∈ tl2, ∀ q ∈ R1, @LT.lt Nat _ q.1 p.1 := fun p hp q hq => htl2 p hp q (in2 (List.mem_cons_of_mem _ (List.mem_cons_of_mem _ hq)))
                  have tR7 := offs1 (R := R1) htl2 (in2 List.mem_cons_self) gR7
                  have tR6 := offs1 (R := R1) htl2 (in2 (List.mem_cons_of_mem _ List.mem_cons_self)) gR6
                  clear N8 htl2
                  refine ⟨wa2, wit2, _, _, l2J _ s1.heap.objs.size (tl2 ++ R1) (List.range (2 ^ n)) (fun v => if evenAll n v [mk n x0, mk n x1, mk n x2] then (ns.getD (Int.toNat 7) 0) ^ (n - wt n v) * (ns.getD (Int.toNat 8) 0) ^ wt n v else 0), rfl, rfl, by k_asm, N20, .inr ⟨listOf wit2 wn2, by k_mem, rfl, _, rfl⟩, ⟨fun _ _ => rfl, _, _, _, _, _, rfl, by assumption, by assumption, rfl⟩, ?_, ?_, ?_⟩
                  · rintro i m nw ⟨_, _, _, _, _, _, rfl, _⟩
                    exact .inr ⟨listOf wit2 wn2, by k_mem, rfl, _, rfl⟩
                  · rintro i v I m₁ nw oI h tk hv ⟨hm2, q7', q6', u7', u6', tlr, rfl, e7', e6', hright⟩ F₁ N₁ off₁
                    obtain ⟨W, hW⟩ : ∃ W, (List.range (2 ^ n))[i]? = some W := by
                      refine ⟨_, List.getElem?_eq_getElem ?_⟩
                      rw [← hP2.1]; exact (Array.getElem?_eq_some_iff.mp hv).1
                    obtain ⟨t9, ot9, bv9, tk9', nt9, b9, rfl, hm9, hcls9, hdata9, hB9⟩ := hP2.2 i v W hv hW
                    obtain ⟨y9, hy9⟩ : ∃ y, bv9 = .ref y := by obtain ⟨y, _, _, _, _, _, _, _, e, _⟩ := hB9; exact ⟨y, e⟩
                    subst hy9
                    obtain ⟨_, dy9, _, _, _, _, _, _, ey9, hm9a, hm9b, hm9c, _⟩ := id hB9
                    cases ey9
                    have hWn : W < 2 ^ n := List.mem_range.mp (List.mem_of_getElem? hW)
                    have hwt := wt_le n W
                    have F₂ := Fr.ov F₁ hm2
                    dsimp only [ov] at F₂
                    rw [hright] at F₂
                    clear F₁
                    have i7 := off₁ _ List.mem_cons_self
                    have i6 := off₁ _ (List.mem_cons_of_mem _ List.mem_cons_self)
                    have iR : ∀ p ∈ tl2 ++ R1, p.1 ≠ I := fun p hp => off₁ p (List.mem_cons_of_mem _ (List.mem_cons_of_mem _ hp))
                    k_dflt (refine asgPair F₂ N₁ rfl (List.mem_append_left _ hm9) hcls9 hdata9 e7' e6' (Ne.symm i7) (Ne.symm i6) (neN (by omega)) tR7 tR6 ?_ (by rfl) (by rfl) (by rfl) (by rfl) (by rfl))
                    intro h' p7 p6 F' N' z7 z6
                    k_steps
                    try unfold Halt
                    k_dflt (refine LCg.Assign_ListComp_U (F₀ := by k_asm) (by rfl) (by with_unfolding_all rfl) (by with_unfolding_all rfl) (by decide) (by rfl) (by decide) (by rfl) (by rfl) (by rfl) ?_)
                    k_steps
                    try unfold Halt
                    have hvs3 : vs.size = 3 := hsetsR.1
                    k_dflt (refine LCg.CompSrc.ledger rfl (by k_asm) (by k_asm) (its := vs) (k := n3) (by k_mem) (Nat.le_trans (show vs.size ≤ 16384 by omega) (by decide)) ?_)
                    intro g6
                    refine compU_ind (mapJ [mk n x0, mk n x1, mk n x2] (fun M => wt n (W &&& M)) _) ⟨rfl, .nil⟩ ?_ ?_
                    · rintro ys6 nw ⟨rfl, hys6⟩
                      intro D6 h6' tk6 F6 N6 o6'
                      rw [hvs3, show [mk n x0, mk n x1, mk n x2].take 3 = [mk n x0, mk n x1, mk n x2] from rfl] at hys6
                      have hy6 := hys6.length
                      rw [List.length_map, List.length_map, show [mk n x0, mk n x1, mk n x2].length = 3 from rfl] at hy6
                      k_steps
                      try unfold Halt
                      k_dflt (refine' Calls.use (len_sel (w := w) (x := y9) (b := b9) (pl := plc p0 st n) (W := W) hplN) ?B8 ?F8 ?X8 ?N8 ?T8 ?hk8 ?dp8 ?un8 ?pre8 ?_)
                      (case F8 => k_asm)
                      (case B8 => k_asm)
                      (case X8 => k_asm)
                      (case N8 => k_asm)
                      (case T8 => k_asm)
                      (case hk8 => rfl)
                      (case pre8 => exact hB9.mono fun p hp => by k_mem)
                      (case dp8 => k_room)
                      (case un8 => k_units)
                      rintro r8 news8 h8 tk8 F8 N8 ⟨rfl, t8, rfl⟩
                      rw [sel_wt, plc_len]
                      dsimp only [PySem.W.LenBack]
                      k_steps
                      try unfold Halt
                      refine ite_two (fun hne => absurd hne (by simp)) (fun _ => ?_)
                      k_steps
                      try unfold Halt
                      k_dflt (refine LCg.ListComp_U (F₀ := by k_asm) (by with_unfolding_all rfl) (by decide) (by rfl) (by decide) (by rfl) ?_)
                      k_steps
                      try unfold Halt
                      k_dflt (refine LCg.CompSrc.ledger rfl (by k_asm) (by k_asm) (its := ys2.toArray) (k := ys2.length) (by k_mem) (by rw [List.size_toArray]; exact Nat.le_trans (show _ ≤ 16384 by omega) (by decide)) ?_)
                      intro g7
                      refine compU_ind (mapJ [mk n x0, mk n x1, mk n x2] (fun M => wt n (W &&& M)) _) ⟨rfl, .nil⟩ ?_ ?_
                      · rintro ys7 nw ⟨rfl, hys7⟩
                        intro D7 h7' tk7 F7 N7 o7'
                        rw [List.size_toArray, hy2, show [mk n x0, mk n x1, mk n x2].take 3 = [mk n x0, mk n x1, mk n x2] from rfl] at hys7
                        k_steps
                        try unfold Halt
                        refine ite_two (fun h => nomatch h) (fun _ => ?_)
                        k_steps
                        try unfold Halt
                        refine ite_two (fun h => nomatch h) (fun _ => ?_)
                        k_steps
                        try unfold Halt
                        k_dflt (refine LCt.ListComp_T (F₀ := by k_asm) (by with_unfolding_all rfl) (by decide) (by rfl) (by decide) (by rfl) ?_)
                        k_steps
                        try unfold Halt
                        k_dflt (refine LCt.CompSrcT.ledger rfl (by k_asm) (by k_asm) (its := ys6.toArray) (k := ys6.length) (by k_mem) (by rw [List.size_toArray]; exact Nat.le_trans (show _ ≤ 16384 by omega) (by decide)) ?_)
                        intro g8
                        refine compT_ind (oddJ ([mk n x0, mk n x1, mk n x2].map fun M => wt n (W &&& M)) _) ⟨rfl, .nil⟩ ?_ ?_
                        · rintro ys8 nw ⟨rfl, hys8⟩
                          intro D8 h8' tk8 F8 N8 o8'
                          rw [List.size_toArray, hy6, show ([mk n x0, mk n x1, mk n x2].map fun M => wt n (W &&& M)).take 3 = [mk n x0, mk n x1, mk n x2].map fun M => wt n (W &&& M) from rfl] at hys8
                          k_steps
                          try unfold Halt
                          refine ite_two (fun hE => ?_) (fun hE => ?_)
                          · have hEv : evenAll n W [mk n x0, mk n x1, mk n x2] := even_iff.2 (List.map_eq_nil_iff.mp (of_decide_eq_true hE))
                            k_steps
                            try unfold Halt
                            k_dflt (refine' Calls.use (len_sel (w := w) (x := y9) (b := b9) (pl := plc p0 st n) (W := W) hplN) ?B8 ?F8 ?X8 ?N8 ?T8 ?hk8 ?dp8 ?un8 ?pre8 ?_)
                            (case F8 => k_asm)
                            (case B8 => k_asm)
                            (case X8 => k_asm)
                            (case N8 => k_asm)
                            (case T8 => k_asm)
                            (case hk8 => rfl)
                            (case pre8 => exact hB9.mono fun p hp => by k_mem)
                            (case dp8 => k_room)
                            (case un8 => k_units)
                            rintro r8 news8 h8 tk8 F8 N8 ⟨rfl, t8, rfl⟩
                            rw [sel_wt, plc_len]
                            dsimp only [PySem.W.LenBack]
                            k_steps
                            try unfold Halt
                            k_dflt (refine' Calls.use (len_sel (w := w) (x := y9) (b := b9) (pl := plc p0 st n) (W := W) hplN) ?B8 ?F8 ?X8 ?N8 ?T8 ?hk8 ?dp8 ?un8 ?pre8 ?_)
                            (case F8 => k_asm)
                            (case B8 => k_asm)
                            (case X8 => k_asm)
                            (case N8 => k_asm)
                            (case T8 => k_asm)
                            (case hk8 => rfl)
                            (case pre8 => exact hB9.mono fun p hp => by k_mem)
                            (case dp8 => k_room)
                            (case un8 => k_units)
                            rintro r8 news8 h8 tk8 F8 N8 ⟨rfl, t8, rfl⟩
                            rw [sel_wt, plc_len]
                            dsimp only [PySem.W.LenBack]
                            k_steps
                            try unfold Halt
                            refine ForEnd.next (by k_asm) (by k_asm) (forall_cons2 (by k_mem) (forall_cons2 (by k_mem) (forall_cons2 (by k_mem) fun p hp => by k_mem))) ?_ ⟨fun y hy => ?_, _, _, _, _, _, rfl, z7, z6, by rw [lsum_snoc hW]; dsimp only; rw [if_pos hEv]; rfl⟩
                            · exact forall_cons2 (Ne.symm (Ne.symm i7)) (forall_cons2 (Ne.symm (Ne.symm i6)) iR)
                            · simp only [List.mem_cons, List.not_mem_nil, or_false, not_or] at hy
                              simp only [if_neg hy.1, if_neg hy.2]
                          · have hEv : ¬ evenAll n W [mk n x0, mk n x1, mk n x2] := fun h => hE (decide_eq_true (List.map_eq_nil_iff.mpr (even_iff.1 h)))
                            k_steps
                            try unfold Halt
                            refine ForEnd.next (by k_asm) (by k_asm) (forall_cons2 (by k_mem) (forall_cons2 (by k_mem) (forall_cons2 (by k_mem) fun p hp => by k_mem))) ?_ ⟨fun y hy => ?_, _, _, _, _, _, rfl, z7, z6, by rw [lsum_snoc hW]; dsimp only; rw [if_neg hEv, Int.add_zero]; rfl⟩
                            · exact forall_cons2 (Ne.symm (Ne.symm i7)) (forall_cons2 (Ne.symm (Ne.symm i6)) iR)
                            · simp only [List.mem_cons, List.not_mem_nil, or_false, not_or] at hy
                              simp only [if_neg hy.1, if_neg hy.2]
                        · rintro j ys8 nw v hj ⟨rfl, hys8⟩ hv8 I7 oI7 C7 oC7 D8 m₂ h6 tk6 E' hns hx1 F6 N6 off6 ne6
                          obtain ⟨x, tx, rfl, hx⟩ := hys6.at j v (by simpa using hv8)
                          obtain ⟨q, hq, rfl⟩ := nats_at hx
                          k_steps
                          try unfold Halt
                          refine ite_two (fun ho => ?_) (fun ho => ?_)
                          · have ho' : q % 2 = 1 := by have := beq_iff_eq.mp ho; omega
                            k_steps
                            try unfold Halt
                            refine LCg.CompEnd.intro F6 N6 _ (fun _ h => h) off6 (.inr ⟨_, by k_mem, rfl, _, rfl⟩) ⟨rfl, odd_snoc hq ho' hys8⟩
                          · have ho' : q % 2 ≠ 1 := fun e => ho (beq_iff_eq.mpr (by omega))
                            refine LCg.CompEnd.intro F6 N6 _ (fun _ h => h) off6 (.inr ⟨_, by k_mem, rfl, _, rfl⟩) ⟨rfl, odd_skip hq ho' hys8⟩
                      · rintro j ys7 nw v hj ⟨rfl, hys7⟩ hv7 I7 oI7 C7 oC7 D7 m₂ h6 tk6 E' hns hx1 F6 N6 off6 ne6
                        obtain ⟨x, tx, rfl, hx⟩ := hys2.at j v (by simpa using hv7)
                        obtain ⟨M, hM, rfl⟩ := nats_at hx
                        k_steps
                        try unfold Halt
                        refine LCg.CompEnd.intro F6 N6 _ (fun _ h => h) off6 (.inr ⟨_, by k_mem, rfl, _, rfl⟩) ⟨rfl, map_snoc hM hys7⟩
                    · rintro j ys6 nw v hj ⟨rfl, hys6⟩ hv6 I6 oI6 C6 oC6 D6 m₂ h6 tk6 E' hns hx1 F6 N6 off6 ne6
                      obtain ⟨M, hM⟩ : ∃ M, [mk n x0, mk n x1, mk n x2][j]? = some M := ⟨_, List.getElem?_eq_getElem (show j < 3 by omega)⟩
                      obtain ⟨bs, hBs⟩ := hsetsR.2 j v M hv6 hM
                      obtain ⟨a6, da6, _, _, _, _, _, _, rfl, hs6a, hs6b, hs6c, _⟩ := id hBs
                      have hwm := wt_le n (W &&& M)
                      k_steps
                      try unfold Halt
                      k_dflt (refine' Calls.use (and_sel (w := w) (x := y9) (y := a6) (b := b9) (b' := bs) (pl := plc p0 st n) (W := W) (M := M) hpl6 hplN (bm_far hB9 hBs fR)) ?B7 ?F7 ?X7 ?N7 ?T7 ?hk7 ?dp7 ?un7 ?pre7 ?_)
                      (case F7 => k_asm)
                      (case B7 => k_asm)
                      (case X7 => k_asm)
                      (case N7 => k_asm)
                      (case T7 => k_asm)
                      (case hk7 => rfl)
                      (case pre7 => exact ⟨hB9.mono fun p hp => by k_mem, hBs.mono fun p hp => by k_mem⟩)
                      (case dp7 => k_room)
                      (case un7 => k_units)
                      rintro r7 news7 h7 tk7 F7 N7 ⟨z9, dz9, b9', c9, u1, u2, u3, sz9, kz9, rfl, rfl, l1, l2, l3, s9, m9⟩
                      (try k_lt l1)
                      dsimp only [PySem.W.CmpBack]
                      k_steps
                      try unfold Halt
                      k_dflt (refine' Calls.use (len_sel (w := w) (x := z9) (b := b9') (pl := plc p0 st n) (W := (W &&& M)) hplN) ?B8 ?F8 ?X8 ?N8 ?T8 ?hk8 ?dp8 ?un8 ?pre8 ?_)
                      (case F8 => k_asm)
                      (case B8 => k_asm)
                      (case X8 => k_asm)
                      (case N8 => k_asm)
                      (case T8 => k_asm)
                      (case hk8 => rfl)
                      (case pre8 => exact ⟨z9, dz9, c9, u1, u2, u3, sz9, kz9, rfl, by k_mem, by k_mem, by k_mem, s9, m9⟩)
                      (case dp8 => k_room)
                      (case un8 => k_units)
                      rintro r8 news8 h8 tk8 F8 N8 ⟨rfl, t8, rfl⟩
                      rw [sel_wt, plc_len]
                      dsimp only [PySem.W.LenBack]
                      k_steps
                      try unfold Halt
                      refine LCg.CompEnd.intro F8 N8 _ (fun p hp => List.mem_cons_of_mem _ (List.mem_cons_of_mem _ (List.mem_cons_of_mem _ hp))) off6 (.inr ⟨_, by k_mem, rfl, _, rfl⟩) ⟨rfl, map_snoc hM hys6⟩
                  · rintro m' nw h tk ⟨hm2, q7', q6', u7', u6', tlr, rfl, e7', e6', hright⟩ F₁ N₁
                    have F₂ := Fr.ov F₁ hm2
                    dsimp only [ov] at F₂
                    rw [hright] at F₂
                    clear F₁
                    rw [hP2.1, List.take_length] at F₂
                    have hvs3 : vs.size = 3 := hsetsR.1
                    k_steps
                    try unfold Halt
                    k_dflt (refine LCg.ListComp_U (F₀ := by k_asm) (by with_unfolding_all rfl) (by decide) (by rfl) (by decide) (by rfl) ?_)
                    k_steps
                    try unfold Halt
                    k_dflt (refine LCg.CompSrc.ledger rfl (by k_asm) (by k_asm) (its := vs) (k := n3) (by k_mem) (Nat.le_trans (show vs.size ≤ 16384 by omega) (by decide)) ?_)
                    intro g6
                    refine compU_ind (mapJ [mk n x0, mk n x1, mk n x2] (fun M => wt n M) _) ⟨rfl, .nil⟩ ?_ ?_
                    · rintro ys6 nw ⟨rfl, hys6⟩
                      intro D6 h6' tk6 F6 N6 o6'
                      rw [hvs3, show [mk n x0, mk n x1, mk n x2].take 3 = [mk n x0, mk n x1, mk n x2] from rfl] at hys6
                      k_steps
                      try unfold Halt
                      k_dflt (refine LCg.ListComp_U (F₀ := by k_asm) (by with_unfolding_all rfl) (by decide) (by rfl) (by decide) (by rfl) ?_)
                      k_steps
                      try unfold Halt
                      k_dflt (refine LCg.CompSrc.ledger rfl (by k_asm) (by k_asm) (its := ys2.toArray) (k := ys2.length) (by k_mem) (by rw [List.size_toArray]; exact Nat.le_trans (show _ ≤ 16384 by omega) (by decide)) ?_)
                      intro g7
                      refine compU_ind (mapJ [mk n x0, mk n x1, mk n x2] (fun M => wt n M) _) ⟨rfl, .nil⟩ ?_ ?_
                      · rintro ys7 nw ⟨rfl, hys7⟩
                        intro D7 h7' tk7 F7 N7 o7'
                        rw [List.size_toArray, hy2, show [mk n x0, mk n x1, mk n x2].take 3 = [mk n x0, mk n x1, mk n x2] from rfl] at hys7
                        k_steps
                        try unfold Halt
                        refine ite_two (fun h => nomatch h) (fun _ => ?_)
                        k_steps
                        try unfold Halt
                        rw [mac3, beq_self_eq_true]
                        k_steps
                      · rintro j ys7 nw v hj ⟨rfl, hys7⟩ hv7 I7 oI7 C7 oC7 D7 m₂ h6 tk6 E' hns hx1 F6 N6 off6 ne6
                        obtain ⟨x, tx, rfl, hx⟩ := hys2.at j v (by simpa using hv7)
                        obtain ⟨M, hM, rfl⟩ := nats_at hx
                        have hMn : M < 2 ^ n := hml M (List.mem_of_getElem? hM)
                        k_steps
                        try unfold Halt
                        refine LCg.CompEnd.intro F6 N6 _ (fun _ h => h) off6 (.inr ⟨_, by k_mem, rfl, _, rfl⟩) ⟨rfl, map_snoc hM hys7⟩
                    · rintro j ys6 nw v hj ⟨rfl, hys6⟩ hv6 I6 oI6 C6 oC6 D6 m₂ h6 tk6 E' hns hx1 F6 N6 off6 ne6
                      obtain ⟨M, hM⟩ : ∃ M, [mk n x0, mk n x1, mk n x2][j]? = some M := ⟨_, List.getElem?_eq_getElem (show j < 3 by omega)⟩
                      obtain ⟨bs, hBs⟩ := hsetsR.2 j v M hv6 hM
                      obtain ⟨a6, da6, _, _, _, _, _, _, rfl, hs6a, hs6b, hs6c, _⟩ := id hBs
                      have hwm := wt_le n M
                      k_steps
                      try unfold Halt
                      k_dflt (refine' Calls.use (len_sel (w := w) (x := a6) (b := bs) (pl := plc p0 st n) (W := M) hplN) ?B8 ?F8 ?X8 ?N8 ?T8 ?hk8 ?dp8 ?un8 ?pre8 ?_)
                      (case F8 => k_asm)
                      (case B8 => k_asm)
                      (case X8 => k_asm)
                      (case N8 => k_asm)
                      (case T8 => k_asm)
                      (case hk8 => rfl)
                      (case pre8 => exact hBs.mono fun p hp => by k_mem)
                      (case dp8 => k_room)
                      (case un8 => k_units)
                      rintro r8 news8 h8 tk8 F8 N8 ⟨rfl, t8, rfl⟩
                      rw [sel_wt, plc_len]
                      dsimp only [PySem.W.LenBack]
                      k_steps
                      try unfold Halt
                      refine LCg.CompEnd.intro F8 N8 _ (fun _ h => h) off6 (.inr ⟨_, by k_mem, rfl, _, rfl⟩) ⟨rfl, map_snoc hM hys6⟩
                · rintro i ys5 nw v hi ⟨tl5, rfl, htl5, hsets5⟩ hv I oI C oC D5 m₂ h6 tk6 E' hns hx1 F6 N6 off6 ne6
                  obtain ⟨x, tx, rfl, hx⟩ := hys4.at i v (by simpa using hv)
                  obtain ⟨q, hq, rfl⟩ := nats_at hx
                  have hq2 : q < 2 ^ 6 := Nat.lt_of_lt_of_le (sgl_lt q (List.mem_of_getElem? hq)) h26
                  k_steps
                  unfold Halt
                  k_dflt (refine' Calls.use (lb_c w D ys.toArray ys.length (plc p0 st n) q tx (by simpa using hys) hpl6 hplN hq2) ?B5 ?F5 ?X5 ?N5 ?T5 ?hk5 ?dp5 ?un5 ?pre5 ?_)
                  (case F5 => k_asm)
                  (case B5 => k_asm)
                  (case X5 => k_asm)
                  (case N5 => k_asm)
                  (case T5 => k_asm)
                  (case hk5 => rfl)
                  (case pre5 => k_mem)
                  (case dp5 => k_room)
                  (case un5 => k_units)
                  rintro r9 news9 h9 tk9 F9 N9 ⟨z9, dz9, b9, c9, u1, u2, u3, sz9, kz9, rfl, rfl, l1, l2, l3, s9, m9⟩
                  have l1' := l1
                  k_lt l1
                  k_steps
                  try unfold Halt
                  refine LCg.CompEnd.intro F9 N9 _ sub_rot3 ⟨⟨?_, ?_, ?_⟩, ⟨?_, ?_, ?_⟩, ⟨?_, ?_, ?_⟩, off6⟩ (.inr ⟨_, by k_mem, rfl, _, rfl⟩) ⟨_ :: _ :: _ :: tl5, rfl, ?bd5, ?pr5⟩
                  case bd5 =>
                    have hdn := fun q hq => l1' q (List.mem_cons_of_mem _ (List.mem_cons_of_mem _ (List.mem_cons_of_mem _ (List.mem_append_right _ hq))))
                    exact List.forall_mem_cons.mpr ⟨fun q hq => Nat.lt_trans (hdn q hq) (Nat.lt_trans l2 l3), List.forall_mem_cons.mpr ⟨fun q hq => Nat.lt_trans (hdn q hq) l2, List.forall_mem_cons.mpr ⟨hdn, htl5⟩⟩⟩
                  case pr5 =>
                    exact SetsAre.snoc hq (hsets5.mono fun p hp => List.mem_cons_of_mem _ (List.mem_cons_of_mem _ (List.mem_cons_of_mem _ hp))) ⟨z9, dz9, c9, u1, u2, u3, sz9, kz9, rfl, by k_mem, by k_mem, by k_mem, s9, m9⟩
                  all_goals k_ne
              · rintro i ys nw v hi ⟨rfl, hys⟩ ⟨tv, rfl⟩ I oI C oC D m₂ h6 tk6 E' hns hx1 F6 N6 off6 ne6
                rw [Int.zero_add] at hx1
                k_steps
                unfold Halt
                refine LCg.CompEnd.intro F6 N6 _ (fun _ h => h) off6 trivial ⟨rfl, ?_⟩
                rw [sgl_succ, nats_app]
                exact IntsAre.snocE hys rfl
        · rintro i ys3 nw v hi ⟨tl, rfl, htl, hsets⟩ hv I oI C oC D3 m₂ h6 tk6 E' hns hx1 F6 N6 off6 ne6
          obtain ⟨x, tx, rfl, hx⟩ := hys2.at i v (by simpa using hv)
          obtain ⟨q, hq, rfl⟩ := nats_at hx
          have hq2 : q < 2 ^ 6 := by
            obtain ⟨z, _, rfl⟩ := List.mem_map.mp (List.mem_of_getElem? hq)
            exact Nat.lt_of_lt_of_le (mk_lt n z) (Nat.pow_le_pow_right (by decide) hn6)
          k_steps
          unfold Halt
          k_dflt (refine' Calls.use (lb_c w D ys.toArray ys.length (plc p0 st n) q tx (by simpa using hys) ?hpl ?hnd hq2) ?B ?F ?X ?N ?T ?hk ?dp ?un ?pre ?_)
          (case F => k_asm)
          (case B => k_asm)
          (case X => k_asm)
          (case N => k_asm)
          (case T => k_asm)
          (case hk => rfl)
          (case pre => k_mem)
          (case hpl => rw [plc_len]; exact hn6)
          (case hnd => exact plc_nodup hst1)
          (case dp => k_room)
          (case un => k_units)
          rintro r9 news9 h9 tk9 F9 N9 ⟨z9, dz9, b9, c9, u1, u2, u3, sz9, kz9, rfl, rfl, l1, l2, l3, s9, m9⟩
          have l1' := l1
          k_lt l1
          k_steps
          unfold Halt
          refine LCg.CompEnd.intro F9 N9 _ sub_rot3 ⟨⟨?_, ?_, ?_⟩, ⟨?_, ?_, ?_⟩, ⟨?_, ?_, ?_⟩, off6⟩ (.inr ⟨_, by k_mem, rfl, _, rfl⟩) ⟨_ :: _ :: _ :: tl, rfl, ?bd, ?pr⟩
          case bd =>
            have hdn := fun q hq => l1' q (List.mem_cons_of_mem _ (List.mem_cons_of_mem _ (List.mem_cons_of_mem _ (List.mem_append_right _ hq))))
            exact List.forall_mem_cons.mpr ⟨fun q hq => Nat.lt_trans (hdn q hq) (Nat.lt_trans l2 l3), List.forall_mem_cons.mpr ⟨fun q hq => Nat.lt_trans (hdn q hq) l2, List.forall_mem_cons.mpr ⟨hdn, htl⟩⟩⟩
          case pr =>
            exact SetsAre.snoc hq (hsets.mono fun p hp => List.mem_cons_of_mem _ (List.mem_cons_of_mem _ (List.mem_cons_of_mem _ hp))) ⟨z9, dz9, c9, u1, u2, u3, sz9, kz9, rfl, by k_mem, by k_mem, by k_mem, s9, m9⟩
          all_goals k_ne
      · rintro i ys2 nw v hi ⟨rfl, hys2⟩ hv I oI C oC D2 m₂ h6 tk6 E' hns hx1 F6 N6 off6 ne6
        obtain ⟨x, tx, rfl, hx⟩ := hI3.at i v (by simpa using hv)
        k_steps
        unfold Halt
        refine LCg.CompEnd.intro F6 N6 _ (fun _ h => h) off6 (.inr ⟨_, by k_mem, rfl, _, rfl⟩) ⟨rfl, ?_⟩
        exact mk_snoc hx hys2
  · rintro i ys nw v hi ⟨rfl, hys⟩ ⟨tv, rfl⟩ I oI C oC D m₂ h6 tk6 E' hns hx1 F6 N6 off6 ne6
    rw [Int.zero_add] at hx1
    k_steps
    unfold Halt
    refine LCg.CompEnd.intro F6 N6 _ (fun _ h => h) off6 trivial ⟨rfl, ?_⟩
    rw [plc_succ]
    exact IntsAre.snocE hys (by rw [hp0, Int.natCast_add, Int.natCast_mul])
end Mine
end
theorem PySem.Challenge.cw_ft5007_01_holds : PySem.Challenge.rw_ft5007_01.Holds :=
  Mine.law_w
