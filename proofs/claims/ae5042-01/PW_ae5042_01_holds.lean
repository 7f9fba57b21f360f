import PyProof.Rows.All
import Wide.All
import OpenK.AllK
import Wide.FinOn
import PySem.Challenge.RW_ae5042_01
open PySem PySem.W PyProof.Rows PySem.Calls
set_option Elab.async false
set_option maxRecDepth 100000

section HdPart
open PySem PySem.W PyProof.Rows
set_option maxHeartbeats 8000000
namespace Mine
open_top hd for PySem.Challenge.rw_ae5042_01
end Mine
end HdPart

section TabPart
open PySem
namespace Mine

abbrev SetTableOf := SetTable

structure BelowIs (xs : Array Nat) (j r : Nat) : Prop where
  le : r ≤ xs.size
  lo : ∀ i, i < r → xs.getD i 0 < j
  hi : ∀ i, r ≤ i → i < xs.size → j ≤ xs.getD i 0

theorem below_go (xs : Array Nat) (j : Nat) (hs : ∀ a b, a < b → b < xs.size → xs.getD a 0 < xs.getD b 0) :
    ∀ fuel lo hi, lo ≤ hi → hi ≤ xs.size → hi - lo ≤ fuel → (∀ i, i < lo → xs.getD i 0 < j) →
      (∀ i, hi ≤ i → i < xs.size → j ≤ xs.getD i 0) → BelowIs xs j (SetTable.below.go xs j fuel lo hi) := by
  intro fuel
  induction fuel with
  | zero =>
    intro lo hi h1 h2 h3 h4 h5
    have : lo = hi := by omega
    subst this
    unfold SetTable.below.go
    exact ⟨h2, h4, h5⟩
  | succ n ih =>
    intro lo hi h1 h2 h3 h4 h5
    unfold SetTable.below.go
    split
    · rename_i hlt
      dsimp only
      have hmid : (lo + hi) / 2 < xs.size := by omega
      have hge : xs.getD ((lo + hi) / 2) j = xs.getD ((lo + hi) / 2) 0 := by simp [Array.getD, hmid]
      rw [hge]
      by_cases hm : xs.getD ((lo + hi) / 2) 0 < j
      · rw [if_pos hm]
        refine ih ((lo + hi) / 2 + 1) hi (by omega) h2 (by omega) (fun i hi' => ?_) h5
        by_cases e : i = (lo + hi) / 2
        · subst e; exact hm
        · exact Nat.lt_trans (hs i ((lo + hi) / 2) (by omega) (by omega)) hm
      · rw [if_neg hm]
        refine ih lo ((lo + hi) / 2) (by omega) (by omega) (by omega) h4 (fun i hi' hi2 => ?_)
        by_cases e : i = (lo + hi) / 2
        · subst e; omega
        · have := hs ((lo + hi) / 2) i (by omega) hi2
          omega
    · have : lo = hi := by omega
      subst this
      exact ⟨h2, h4, h5⟩

theorem sorted_getD {xs : Array Nat} (h : xs.toList.Pairwise (· < ·)) : ∀ a b, a < b → b < xs.size → xs.getD a 0 < xs.getD b 0 := by
  intro a b hab hb
  have ha : a < xs.size := by omega
  have := List.pairwise_iff_getElem.mp h a b (by simpa using ha) (by simpa using hb) hab
  simpa [Array.getD, ha, hb] using this

theorem below_spec {xs : Array Nat} (h : xs.toList.Pairwise (· < ·)) (j : Nat) : BelowIs xs j (SetTable.below xs j) := by
  unfold SetTable.below
  exact below_go xs j (sorted_getD h) _ _ _ (Nat.zero_le _) (Nat.le_refl _) (by omega) (by intro i hi; omega) (by intro i h1 h2; omega)

theorem below_take {xs : Array Nat} (h : xs.toList.Pairwise (· < ·)) (j : Nat) :
    (∀ x ∈ xs.toList.take (SetTable.below xs j), x < j) ∧ ∀ x ∈ xs.toList.drop (SetTable.below xs j), j ≤ x := by
  have B := below_spec h j
  constructor
  · intro x hx
    obtain ⟨i, hi, rfl⟩ := List.getElem_of_mem hx
    have h1 : i < SetTable.below xs j := by simp at hi; omega
    have h2 := B.lo i h1
    have h3 : i < xs.size := by have := B.le; omega
    simpa [Array.getD, h3] using h2
  · intro x hx
    obtain ⟨i, hi, rfl⟩ := List.getElem_of_mem hx
    have h3 : SetTable.below xs j + i < xs.size := by simp at hi; omega
    have h2 := B.hi (SetTable.below xs j + i) (by omega) h3
    simpa [Array.getD, h3] using h2

/-- the place where j stands, if it stands -/
theorem below_at {xs : Array Nat} (h : xs.toList.Pairwise (· < ·)) (j : Nat) : (xs[SetTable.below xs j]? = some j) ↔ j ∈ xs.toList := by
  constructor
  · intro e
    obtain ⟨hlt, e⟩ := Array.getElem?_eq_some_iff.mp e
    rw [← e]; simp
  · intro hj
    have B := below_take h j
    have hd : j ∈ xs.toList.drop (SetTable.below xs j) := by
      have : j ∈ xs.toList.take (SetTable.below xs j) ++ xs.toList.drop (SetTable.below xs j) := by rw [List.take_append_drop]; exact hj
      rcases List.mem_append.mp this with h1 | h1
      · exact absurd (B.1 j h1) (Nat.lt_irrefl _)
      · exact h1
    have hne : xs.toList.drop (SetTable.below xs j) ≠ [] := List.ne_nil_of_mem hd
    have hlt : SetTable.below xs j < xs.size := by
      have := List.length_pos_iff.mpr hne
      simp at this; omega
    have e : xs.toList.drop (SetTable.below xs j) = xs[SetTable.below xs j] :: xs.toList.drop (SetTable.below xs j + 1) := by
      rw [List.drop_eq_getElem_cons (by simpa using hlt)]; simp
    rw [e] at hd B
    have hle := B.2 _ (List.mem_cons_self)
    rcases List.mem_cons.mp hd with h1 | h1
    · rw [Array.getElem?_eq_getElem hlt, ← h1]
    · have hp : (xs[SetTable.below xs j] :: xs.toList.drop (SetTable.below xs j + 1)).Pairwise (· < ·) := by rw [← e]; exact h.sublist (List.drop_sublist _ _)
      have := (List.pairwise_cons.mp hp).1 j h1
      omega

theorem has_iff {xs : Array Nat} (h : xs.toList.Pairwise (· < ·)) (j : Nat) : SetTable.has xs j = true ↔ j ∈ xs.toList := by
  unfold SetTable.has
  rw [beq_iff_eq]; exact below_at h j

/-- insert into a rising list -/
def ins (ks : List Nat) (k : Nat) : List Nat := ks.takeWhile (· < k) ++ k :: ks.dropWhile (· < k)

theorem takeWhile_of {ks a b : List Nat} {k : Nat} (e : ks = a ++ b) (ha : ∀ x ∈ a, x < k) (hb : ∀ x ∈ b, k ≤ x) : ks.takeWhile (· < k) = a ∧ ks.dropWhile (· < k) = b := by
  subst e
  induction a with
  | nil =>
    cases b with
    | nil => simp
    | cons y t =>
      have := hb y (by simp)
      simp [List.takeWhile_cons, List.dropWhile_cons]; omega
  | cons x t ih =>
    have hx := ha x (by simp)
    have := ih (fun y hy => ha y (by simp [hy]))
    simp [List.takeWhile_cons, List.dropWhile_cons, hx, this.1, this.2]

theorem insertAt_ins {xs : Array Nat} (h : xs.toList.Pairwise (· < ·)) (k : Nat) : (SetTable.insertAt xs (SetTable.below xs k) k).toList = ins xs.toList k := by
  rw [SetTable.toList_insertAt]
  have B := below_take h k
  have := takeWhile_of (List.take_append_drop (SetTable.below xs k) xs.toList).symm B.1 B.2
  unfold ins
  rw [this.1, this.2]

theorem mem_ins {ks : List Nat} {k x : Nat} : x ∈ ins ks k ↔ x = k ∨ x ∈ ks := by
  unfold ins
  have e : x ∈ ks ↔ x ∈ ks.takeWhile (· < k) ++ ks.dropWhile (· < k) := by rw [List.takeWhile_append_dropWhile]
  rw [e]
  simp only [List.mem_append, List.mem_cons]
  constructor
  · rintro (h | h | h)
    · exact .inr (.inl h)
    · exact .inl h
    · exact .inr (.inr h)
  · rintro (h | h | h)
    · exact .inr (.inl h)
    · exact .inl h
    · exact .inr (.inr h)

theorem sorted_ins {ks : List Nat} (h : ks.Pairwise (· < ·)) {k : Nat} (hk : k ∉ ks) : (ins ks k).Pairwise (· < ·) := by
  induction ks with
  | nil => simp [ins]
  | cons x t ih =>
    have hx : x ≠ k := fun e => hk (by simp [e])
    have ht : k ∉ t := fun e => hk (by simp [e])
    have hp := List.pairwise_cons.mp h
    by_cases hlt : x < k
    · have e : ins (x :: t) k = x :: ins t k := by simp [ins, List.takeWhile_cons, List.dropWhile_cons, hlt]
      rw [e]
      refine List.pairwise_cons.mpr ⟨fun y hy => ?_, ih hp.2 ht⟩
      rcases mem_ins.mp hy with rfl | hy
      · exact hlt
      · exact hp.1 y hy
    · have e : ins (x :: t) k = k :: x :: t := by simp [ins, List.takeWhile_cons, List.dropWhile_cons, hlt]
      rw [e]
      refine List.pairwise_cons.mpr ⟨fun y hy => ?_, h⟩
      rcases List.mem_cons.mp hy with rfl | hy
      · omega
      · have := hp.1 y hy; omega

theorem length_ins (ks : List Nat) (k : Nat) : (ins ks k).length = ks.length + 1 := by
  unfold ins
  have e : ks.length = (ks.takeWhile (· < k) ++ ks.dropWhile (· < k)).length := by rw [List.takeWhile_append_dropWhile]
  rw [e, List.length_append, List.length_append, List.length_cons]; omega

theorem length_le_of {n : Nat} : ∀ {ks : List Nat} {m : Nat}, ks.Pairwise (· < ·) → (∀ k ∈ ks, m ≤ k ∧ k < n) → m ≤ n → ks.length ≤ n - m := by
  intro ks
  induction ks with
  | nil => intro m _ _ _; simp
  | cons x t ih =>
    intro m h hl hmn
    have hp := List.pairwise_cons.mp h
    have hx := hl x (by simp)
    have := ih (m := x + 1) hp.2 (fun k hk => ⟨hp.1 k hk, (hl k (by simp [hk])).2⟩) (by omega)
    simp; omega

theorem length_le_seven {ks : List Nat} (h : ks.Pairwise (· < ·)) (hl : ∀ k ∈ ks, k < 7) : ks.length ≤ 7 :=
  length_le_of (m := 0) h (fun k hk => ⟨Nat.zero_le _, hl k hk⟩) (by omega)

theorem freeSlot_new {t : SetTable} {k : Nat} (hs : t.place.toList.Pairwise (· < ·)) (hk : k ∉ t.place.toList) (hd : t.dummies = #[]) (h7 : k < 7) (hm : 7 ≤ t.mask) :
    t.freeSlot (k : Int) = some (k, false) := by
  have hb : SetTable.bits (k : Int) = k := by
    unfold SetTable.bits
    omega
  have hmod : k % (t.mask + 1) = k := Nat.mod_eq_of_lt (by omega)
  have hslot : t.slot k = .empty := by
    unfold SetTable.slot
    have h1 : ¬ (t.place[SetTable.below t.place k]? = some k) := fun e => hk ((below_at hs k).mp e)
    have h2 : SetTable.has t.dummies k = false := by
      rw [hd]; simp [SetTable.has]
    simp [h1, h2]
  unfold SetTable.freeSlot SetTable.probe
  have hf : 10 * SetTable.turns t.mask = (10 * SetTable.turns t.mask - 1) + 1 := by unfold SetTable.turns; omega
  rw [hf]
  unfold SetTable.probe.go
  have hj : (t.probeStart (k : Int)).j = k := by simp [SetTable.probeStart, hb, hmod]
  have hdm : (t.probeStart (k : Int)).dummy = none := by simp [SetTable.probeStart]
  rw [hj, hslot]
  simp [hdm]

end Mine
end TabPart

section Tab2Part
open PySem
namespace Mine

theorem bits_nat {k : Nat} (h : k < 7) : SetTable.bits (k : Int) = k := by unfold SetTable.bits; omega

/-- the owner's array behind the keys ks -/
structure OwnerIs (mask : Nat) (ks : List Nat) (owner : Array (Option Nat)) : Prop where
  size : owner.size = mask + 1
  at_ : ∀ j, j ≤ mask → owner.getD j none = ks.findIdx? (· == j)

theorem free_here {owner : Array (Option Nat)} {mask k : Nat} (hk : k ≤ mask) (hs : owner.size = mask + 1) (hn : owner.getD k none = none) (pt n : Nat) :
    SetTable.layClean.free mask owner (n + 1) k pt = some k := by
  unfold SetTable.layClean.free
  have hpos : SetTable.runEnd mask k + 1 - k = (SetTable.runEnd mask k - k) + 1 := by unfold SetTable.runEnd; split <;> omega
  have hsz : k < owner.size := by omega
  have h0 : owner.getD (k + 0) (some 0) = none := by simpa [Array.getD, hsz] using hn
  have : (List.range (SetTable.runEnd mask k + 1 - k)).find? (fun i => (owner.getD (k + i) (some 0)).isNone) = some 0 := by
    rw [hpos, List.range_succ_eq_map, List.find?_cons_of_pos]
    rw [h0]; rfl
  rw [this]
  rfl

theorem layClean_go (mask : Nat) (hm : 7 ≤ mask) : ∀ (rest pre : List Nat) (owner : Array (Option Nat)), (pre ++ rest).Nodup → (∀ k ∈ rest, k < 7) → OwnerIs mask pre owner →
    ∃ owner', (rest.map (fun k : Nat => (k : Int))).foldl (init := some (owner, pre.length)) (fun acc h => do
      let (owner, k) ← acc
      let j ← SetTable.layClean.free mask owner (SetTable.turns mask) (SetTable.bits h % (mask + 1)) (SetTable.bits h)
      pure (owner.setIfInBounds j (some k), k + 1)) = some (owner', (pre ++ rest).length) ∧ OwnerIs mask (pre ++ rest) owner' := by
  intro rest
  induction rest with
  | nil => intro pre owner _ _ ho; exact ⟨owner, by simp, by simpa using ho⟩
  | cons k t ih =>
    intro pre owner hnd hl ho
    have hk7 : k < 7 := hl k (by simp)
    have hkp : k ∉ pre := fun e => by
      have := (List.nodup_append.mp hnd).2.2 k e k (by simp)
      exact this rfl
    have hnone : owner.getD k none = none := by
      rw [ho.at_ k (by omega), List.findIdx?_eq_none_iff]
      intro x hx
      have : x ≠ k := fun e => hkp (e ▸ hx)
      simpa using this
    have hfree := free_here (mask := mask) (by omega) ho.size hnone k (SetTable.turns mask - 1)
    have hturn : SetTable.turns mask - 1 + 1 = SetTable.turns mask := by unfold SetTable.turns; omega
    rw [hturn] at hfree
    have hmod : k % (mask + 1) = k := Nat.mod_eq_of_lt (by omega)
    rw [List.map_cons, List.foldl_cons]
    have e : (do
      let (owner, n) ← some (owner, pre.length)
      let j ← SetTable.layClean.free mask owner (SetTable.turns mask) (SetTable.bits (k : Int) % (mask + 1)) (SetTable.bits (k : Int))
      pure (owner.setIfInBounds j (some n), n + 1) : Option _) = some (owner.setIfInBounds k (some pre.length), pre.length + 1) := by
      rw [bits_nat hk7, hmod]
      show (SetTable.layClean.free mask owner (SetTable.turns mask) k k).bind _ = _
      rw [hfree]; rfl
    rw [e]
    have ho' : OwnerIs mask (pre ++ [k]) (owner.setIfInBounds k (some pre.length)) := by
      refine ⟨by simp [ho.size], fun j hj => ?_⟩
      rw [List.findIdx?_append]
      by_cases hjk : j = k
      · subst hjk
        have hlt : j < owner.size := by rw [ho.size]; omega
        have h1 := ho.at_ j hj
        rw [hnone] at h1
        rw [← h1]
        simp [Array.getD, hlt]
      · have h1 := ho.at_ j hj
        have hlt : j < owner.size := by rw [ho.size]; omega
        have h2 : (owner.setIfInBounds k (some pre.length)).getD j none = owner.getD j none := by
          simp [Array.getD, hlt, Array.getElem_setIfInBounds, Ne.symm hjk]
        rw [h2, h1]
        have h3 : List.findIdx? (fun x => x == j) [k] = none := by simp [List.findIdx?_cons]; exact fun e => hjk e.symm
        rw [h3]; simp
    have hlen : pre.length + 1 = (pre ++ [k]).length := by simp
    rw [hlen]
    have := ih (pre ++ [k]) _ (by simpa using hnd) (fun x hx => hl x (by simp [hx])) ho'
    simpa using this

theorem layClean_ok {mask : Nat} (hm : 7 ≤ mask) {ks : List Nat} (hnd : ks.Nodup) (hl : ∀ k ∈ ks, k < 7) :
    ∃ owner, SetTable.layClean mask (ks.map fun k : Nat => (k : Int)).toArray = some owner ∧ OwnerIs mask ks owner := by
  obtain ⟨o, h1, h2⟩ := layClean_go mask hm ks [] (Array.replicate (mask + 1) none) (by simpa using hnd) hl ⟨by simp, fun j hj => by
    have : j < mask + 1 := by omega
    simp [Array.getD, this]⟩
  refine ⟨o, ?_, by simpa using h2⟩
  unfold SetTable.layClean
  rw [List.foldl_toArray]
  simp only [List.nil_append, List.length_nil] at h1
  rw [h1]; rfl

theorem findIdx?_of_mem {ks : List Nat} {j : Nat} (h : j ∈ ks) : ∃ i, ks.findIdx? (· == j) = some i ∧ ks[i]? = some j := by
  cases e : ks.findIdx? (· == j) with
  | none =>
    have := List.findIdx?_eq_none_iff.mp e j h
    simp at this
  | some i =>
    obtain ⟨hi, hp, _⟩ := List.findIdx?_eq_some_iff_getElem.mp e
    exact ⟨i, rfl, by rw [List.getElem?_eq_getElem hi]; simpa using hp⟩

/-- the layout that a clean table gets: the keys rising, the old places in that order -/
structure LaidIs (mask finger moves : Nat) (led plain : Bool) (ks : List Nat) (t : SetTable) (order : Array Nat) : Prop where
  eq : ∃ place, t = { mask, place, dummies := #[], finger, led, moves, plain }
  sorted : t.place.toList.Pairwise (· < ·)
  mem : ∀ j, j ∈ t.place.toList ↔ j ∈ ks
  at_ : ∀ i (h : i < t.place.toList.length), ∃ o, order.toList[i]? = some o ∧ ks[o]? = some (t.place.toList[i])
  len : order.toList.length = t.place.toList.length

theorem laid_ok {mask finger moves : Nat} {led plain : Bool} (hm : 7 ≤ mask) {ks : List Nat} (hnd : ks.Nodup) (hl : ∀ k ∈ ks, k < 7) :
    ∃ t order, SetTable.laid mask finger moves led plain (ks.map fun k : Nat => (k : Int)).toArray = some (t, order) ∧ LaidIs mask finger moves led plain ks t order := by
  obtain ⟨owner, h1, h2⟩ := layClean_ok hm hnd hl
  unfold SetTable.laid
  rw [h1]
  have key : ∀ (l : List Nat), (∀ j ∈ l, j ≤ mask) → l.Pairwise (· < ·) →
      (((l.filterMap fun j => (owner.getD j none).map (j, ·)).map (·.1)).Pairwise (· < ·)) ∧
      (∀ j, j ∈ (l.filterMap fun j => (owner.getD j none).map (j, ·)).map (·.1) ↔ j ∈ l ∧ j ∈ ks) ∧
      (∀ p ∈ (l.filterMap fun j => (owner.getD j none).map (j, ·)), ks[p.2]? = some p.1) := by
    intro l
    induction l with
    | nil => intro _ _; simp
    | cons x t ih =>
      intro hle hp
      have hp' := List.pairwise_cons.mp hp
      obtain ⟨i1, i2, i3⟩ := ih (fun j hj => hle j (by simp [hj])) hp'.2
      have hx := h2.at_ x (hle x (by simp))
      by_cases hxk : x ∈ ks
      · obtain ⟨i, e1, e2⟩ := findIdx?_of_mem hxk
        have e3 : (owner.getD x none).map (x, ·) = some (x, i) := by rw [hx, e1]; rfl
        simp only [List.filterMap_cons, e3]
        refine ⟨?_, ?_, ?_⟩
        · rw [List.map_cons]
          refine List.pairwise_cons.mpr ⟨fun y hy => hp'.1 y ((i2 y).mp hy).1, i1⟩
        · intro j
          rw [List.map_cons, List.mem_cons, i2 j, List.mem_cons]
          constructor
          · rintro (h | ⟨ha, hb⟩)
            · exact ⟨.inl h, h ▸ hxk⟩
            · exact ⟨.inr ha, hb⟩
          · rintro ⟨h | h, hb⟩
            · exact .inl h
            · exact .inr ⟨h, hb⟩
        · intro p hpm
          rcases List.mem_cons.mp hpm with rfl | hpm
          · exact e2
          · exact i3 p hpm
      · have e1 : ks.findIdx? (· == x) = none := by
          rw [List.findIdx?_eq_none_iff]
          intro y hy
          have : y ≠ x := fun e => hxk (e ▸ hy)
          simpa using this
        have e3 : (owner.getD x none).map (x, ·) = none := by rw [hx, e1]; rfl
        simp only [List.filterMap_cons, e3]
        refine ⟨i1, fun j => ?_, i3⟩
        rw [i2 j, List.mem_cons]
        constructor
        · rintro ⟨ha, hb⟩; exact ⟨.inr ha, hb⟩
        · rintro ⟨h | h, hb⟩
          · exact absurd (h ▸ hb) hxk
          · exact ⟨h, hb⟩
  obtain ⟨k1, k2, k3⟩ := key (List.range (mask + 1)) (fun j hj => by simp at hj; omega) List.pairwise_lt_range
  refine ⟨_, _, rfl, ⟨_, rfl⟩, ?_, ?_, ?_, ?_⟩
  · simpa using k1
  · intro j
    have := k2 j
    dsimp only
    rw [this]
    constructor
    · exact fun h => h.2
    · exact fun h => ⟨by have := hl j h; simp; omega, h⟩
  · intro i hi
    simp only [List.length_map] at hi
    refine ⟨((List.range (mask + 1)).filterMap fun j => (owner.getD j none).map (j, ·))[i].2, ?_, ?_⟩
    · simp only [List.toList_toArray, List.getElem?_map]
      rw [List.getElem?_eq_getElem hi]; rfl
    · have := k3 _ (List.getElem_mem hi)
      simpa using this
  · simp

end Mine
end Tab2Part

section BasePart
open PySem PySem.W PyProof.Rows PySem.Calls
namespace Mine

/-- the object at a satisfies φ -/
def At (s : Shared) (a : Nat) (φ : Obj → Prop) : Prop := ∃ o, s.heap.get? a = some o ∧ φ o

/-- s' keeps all of s but the objects in P and the generators in D -/
structure Kp (P : Nat → Prop) (D : Nat → Prop) (s s' : Shared) : Prop where
  keep : ∀ (b : Nat) o, ¬ P b → s.heap.get? b = some o → s'.heap.get? b = some o
  gsz : s.gens.size ≤ s'.gens.size
  gkeep : ∀ i x, ¬ D i → s.gens[i]? = some x → s'.gens[i]? = some x
  bare : AllBare s.gens → AllBare s'.gens
  drawn : s'.drawn = s.drawn
  os : s'.os = s.os

abbrev No {α : Type} : α → Prop := fun _ => False

theorem At.lt {s a φ} (h : At s a φ) : a < s.heap.objs.size := let ⟨_, e, _⟩ := h; Heap.lt_size e
theorem At.kp {s s' a φ P D} (h : At s a φ) (e : Kp P D s s') (hp : ¬ P a) : At s' a φ := let ⟨o, g, r⟩ := h; ⟨o, e.keep a o hp g, r⟩
theorem At.imp {s a φ ψ} (h : At s a φ) (i : ∀ o, φ o → ψ o) : At s a ψ := let ⟨o, g, r⟩ := h; ⟨o, g, i o r⟩
theorem At.ne {s a b φ ψ} (h : At s a φ) (h' : At s b ψ) (hn : ∀ o, φ o → ψ o → False) : a ≠ b := by
  rintro rfl
  obtain ⟨o, g, r⟩ := h
  obtain ⟨o', g', r'⟩ := h'
  rw [g] at g'; cases g'
  exact hn o r r'

theorem Kp.refl {P D} (s : Shared) : Kp P D s s := ⟨fun _ _ _ e => e, Nat.le_refl _, fun _ _ _ e => e, id, rfl, rfl⟩
theorem Kp.trans {P D s s' s''} (x : Kp P D s s') (y : Kp P D s' s'') : Kp P D s s'' :=
  ⟨fun b o hp e => y.keep b o hp (x.keep b o hp e), Nat.le_trans x.gsz y.gsz, fun i v hd e => y.gkeep i v hd (x.gkeep i v hd e), y.bare ∘ x.bare, y.drawn.trans x.drawn, y.os.trans x.os⟩
theorem Kp.mono {P P' : Nat → Prop} {D D' : Nat → Prop} {s s'} (x : Kp P D s s') (hP : ∀ (b : Nat) o, s.heap.get? b = some o → P b → P' b) (hD : ∀ i, i < s.gens.size → D i → D' i) : Kp P' D' s s' :=
  ⟨fun b o hp e => x.keep b o (fun h => hp (hP b o e h)) e, x.gsz, fun i v hd e => x.gkeep i v (fun h => hd (hD i (by have := (Array.getElem?_eq_some_iff.mp e).1; exact this) h)) e, x.bare, x.drawn, x.os⟩

theorem Kp.same {s : Shared} {a : Nat} {h' : Heap} {tk : Nat} {D} (hs : Heap.SameBut a s.heap h') : Kp (· = a) D s { s with heap := h', toks := tk } :=
  ⟨fun b o hp e => (hs.2 b hp).trans e, Nat.le_refl _, fun _ _ _ e => e, id, rfl, rfl⟩
theorem Kp.ext {s : Shared} {a : Nat} {h' : Heap} {tk : Nat} {D} (hs : Heap.ExtBut a s.heap h') : Kp (· = a) D s { s with heap := h', toks := tk } :=
  ⟨fun b o hp e => hs b o hp e, Nat.le_refl _, fun _ _ _ e => e, id, rfl, rfl⟩
theorem Kp.keeps {s : Shared} {h' : Heap} {tk : Nat} {P D} (hs : ∀ b o, s.heap.get? b = some o → h'.get? b = some o) : Kp P D s { s with heap := h', toks := tk } :=
  ⟨fun b o _ e => hs b o e, Nat.le_refl _, fun _ _ _ e => e, id, rfl, rfl⟩
theorem Kp.push {s : Shared} {o : Obj} {tk : Nat} {P D} : Kp P D s { s with heap := s.heap.push o, toks := tk } := Kp.keeps fun _ _ e => Heap.get?_push_of_some o e
theorem Kp.toks {s : Shared} {tk : Nat} {P D} : Kp P D s { s with toks := tk } := Kp.keeps (h' := s.heap) fun _ _ e => e

theorem At.push {s : Shared} {o : Obj} {φ : Obj → Prop} {tk : Nat} (hf : o.isFreed = false) (h : φ o) : At { s with heap := s.heap.push o, toks := tk } s.heap.objs.size φ :=
  ⟨o, Heap.get?_push_size _ hf, h⟩

theorem get_lt {s : Shared} {b : Nat} {o : Obj} (h : s.heap.get? b = some o) : b < s.heap.objs.size := Heap.lt_size h
/-- v lies above all that stands -/
def Above (s : Shared) (v : Nat) : Prop := ∀ (b : Nat) o, s.heap.get? b = some o → b < v
theorem above_le {s : Shared} {v : Nat} (h : s.heap.objs.size ≤ v) : Above s v := fun _ _ e => Nat.lt_of_lt_of_le (Heap.lt_size e) h
theorem Above.kp {s s' : Shared} {v : Nat} {D} (h : Above s' v) (e : Kp No D s s') : Above s v := fun b o g => h b o (e.keep b o id g)
theorem At.above {s a φ v} (h : At s a φ) (x : Above s v) : a < v := let ⟨o, e, _⟩ := h; x a o e

end Mine
end BasePart

section Sets1Part
open PySem PySem.W PyProof.Rows PySem.Calls
namespace Mine

theorem hash_small : ∀ k : Nat, k < 7 → hashInt (k : Int) = k := by decide

/-- a set of small vints, laid as its keys -/
structure SetD (led clean : Bool) (ks : List Nat) (es : Array (Int × Value)) (t : SetTable) : Prop where
  vals : es.toList.map (·.1) = ks.map fun k : Nat => (k : Int)
  vints : ∀ e ∈ es.toList, ∃ tok, e.2 = .int e.1 tok
  sorted : ks.Pairwise (· < ·)
  lt : ∀ k ∈ ks, k < 7
  place : t.place.toList = ks
  mask : 7 ≤ t.mask
  fill : t.dummies.size + ks.length ≤ 7
  clean : clean = true → t.dummies = #[]
  plain : t.plain = true
  led : t.led = led

def SetO (led clean : Bool) (ks : List Nat) (o : Obj) : Prop := o.ExactSet ∧ ∃ es ep t, o.data = .set es ep t ∧ SetD led clean ks es t

namespace SetD
variable {led clean : Bool} {ks : List Nat} {es : Array (Int × Value)} {t : SetTable}
theorem size (x : SetD led clean ks es t) : es.size = ks.length := by
  have := congrArg List.length x.vals
  simpa using this
theorem fits (x : SetD led clean ks es t) : t.fits es.size = true := by
  have h1 : t.place.size = ks.length := by rw [← x.place]; simp
  have := x.fill; have := x.mask
  simp only [SetTable.fits, Bool.and_eq_true, beq_iff_eq, decide_eq_true_eq]
  refine ⟨by rw [h1, x.size], ?_⟩
  unfold SetTable.fill
  rw [h1]; omega
theorem small (x : SetD led clean ks es t) : es.size < scanBound := by
  have : scanBound = 4096 := rfl
  rw [x.size, this]; have := x.fill; omega
theorem mem {e : Int × Value} (x : SetD led clean ks es t) (h : e ∈ es.toList) : ∃ k : Nat, k ∈ ks ∧ k < 7 ∧ e.1 = k ∧ ∃ tok, e.2 = .int k tok := by
  have h1 : e.1 ∈ es.toList.map (·.1) := List.mem_map_of_mem h
  rw [x.vals] at h1
  obtain ⟨k, hk, he⟩ := List.mem_map.mp h1
  obtain ⟨tok, ht⟩ := x.vints e h
  exact ⟨k, hk, x.lt k hk, he.symm, tok, by rw [ht, ← he]⟩
theorem elems {prog w} (x : SetD led clean ks es t) : ElemsOf (intKind prog w) es.toList := fun e he => by
  obtain ⟨k, _, h7, h1, tok, h2⟩ := x.mem he
  refine ⟨⟨(k : Int), ?_, ?_⟩, ?_⟩
  · rw [h2]; show ((k : Int) == (k : Int)) = true; simp
  · rw [h1]; exact (hash_small k h7).symm
  · rw [h2]; rfl
theorem iff {prog w} (x : SetD led clean ks es t) (i : Int) : (∃ e ∈ es.toList, (intKind prog w).is i e.2 = true) ↔ ∃ k : Nat, k ∈ ks ∧ (k : Int) = i := by
  constructor
  · rintro ⟨e, he, hi⟩
    obtain ⟨k, hk, _, _, tok, h2⟩ := x.mem he
    rw [h2] at hi
    have : ((k : Int) == i) = true := hi
    exact ⟨k, hk, by simpa using this⟩
  · rintro ⟨k, hk, rfl⟩
    have h1 : (k : Int) ∈ es.toList.map (·.1) := by rw [x.vals]; exact List.mem_map.mpr ⟨k, hk, rfl⟩
    obtain ⟨e, he, h2⟩ := List.mem_map.mp h1
    obtain ⟨tok, ht⟩ := x.vints e he
    refine ⟨e, he, ?_⟩
    rw [ht, h2]; show ((k : Int) == (k : Int)) = true; simp
end SetD

def inS (ks : List Nat) (i : Int) : Bool := ks.any fun k => decide ((k : Int) = i)
theorem inS_iff {ks : List Nat} {i : Int} : inS ks i = true ↔ ∃ k : Nat, k ∈ ks ∧ (k : Int) = i := by simp [inS]

theorem SetO.setOf {prog w} {led clean : Bool} {ks : List Nat} {s : Shared} {a : Addr} (h : At s a (SetO led clean ks)) : s.heap.SetOf (intKind prog w) a (inS ks) ks.length := by
  obtain ⟨o, g, hex, es, ep, t, hd, x⟩ := h
  exact ⟨o, es, ep, t, g, hex, hd, x.elems, fun k => (inS_iff.trans (x.iff (prog := prog) (w := w) k).symm), x.small, x.fits, x.size⟩

theorem sorted_ext : ∀ {l l' : List Nat}, l.Pairwise (· < ·) → l'.Pairwise (· < ·) → (∀ x, x ∈ l ↔ x ∈ l') → l = l' := by
  intro l
  induction l with
  | nil =>
    intro l' _ _ h
    cases l' with
    | nil => rfl
    | cons y t => have := (h y).mpr (by simp); simp at this
  | cons x t ih =>
    intro l' h1 h2 h
    cases l' with
    | nil => have := (h x).mp (by simp); simp at this
    | cons y t' =>
      have p1 := List.pairwise_cons.mp h1
      have p2 := List.pairwise_cons.mp h2
      have hxy : x = y := by
        have a1 := (h x).mp (by simp)
        have a2 := (h y).mpr (by simp)
        rcases List.mem_cons.mp a1 with e | e
        · exact e
        · rcases List.mem_cons.mp a2 with e' | e'
          · exact e'.symm
          · have := p2.1 x e; have := p1.1 y e'; omega
      subst hxy
      congr 1
      refine ih p1.2 p2.2 fun z => ?_
      constructor
      · intro hz
        rcases List.mem_cons.mp ((h z).mp (by simp [hz])) with e | e
        · have := p1.1 z hz; omega
        · exact e
      · intro hz
        rcases List.mem_cons.mp ((h z).mpr (by simp [hz])) with e | e
        · have := p2.1 z hz; omega
        · exact e

theorem nodup_of_sorted {l : List Nat} (h : l.Pairwise (· < ·)) : l.Nodup := h.imp fun hab => Nat.ne_of_lt hab

theorem sizeAbove_ge (n : Nat) : 8 ≤ SetTable.sizeAbove n := by
  have : ∀ fuel size, 8 ≤ size → 8 ≤ SetTable.sizeAbove.go n fuel size := by
    intro fuel
    induction fuel with
    | zero => intro size h; exact h
    | succ k ih =>
      intro size h
      unfold SetTable.sizeAbove.go
      split
      · exact ih _ (by omega)
      · exact h
  exact this 64 8 (Nat.le_refl _)

/-- a table laid anew: the same elements in the same order -/
theorem laid_same {led clean : Bool} {ks : List Nat} {es : Array (Int × Value)} {t : SetTable} (x : SetD led clean ks es t) {mask finger moves : Nat} {l p : Bool} (hm : 7 ≤ mask) :
    SetTable.laid mask finger moves l p (es.map (·.1)) = some ({ mask, place := ks.toArray, dummies := #[], finger, led := l, moves, plain := p }, Array.range ks.length) := by
  have he : es.map (·.1) = (ks.map fun k : Nat => (k : Int)).toArray := by
    apply Array.toList_inj.mp
    rw [Array.toList_map, x.vals]
  rw [he]
  obtain ⟨t', order, h1, h2⟩ := laid_ok (mask := mask) (finger := finger) (moves := moves) (led := l) (plain := p) hm (nodup_of_sorted x.sorted) x.lt
  rw [h1]
  obtain ⟨place, rfl⟩ := h2.eq
  have hp : place.toList = ks := sorted_ext h2.sorted x.sorted h2.mem
  have hnd := nodup_of_sorted x.sorted
  have ho : order = Array.range ks.length := by
    apply Array.toList_inj.mp
    rw [Array.toList_range]
    have hlen : order.toList.length = ks.length := by rw [h2.len]; show place.toList.length = _; rw [hp]
    apply List.ext_getElem?
    intro i
    by_cases hi : i < ks.length
    · obtain ⟨o, e1, e2⟩ := h2.at_ i (by show i < place.toList.length; rw [hp]; exact hi)
      have e3 : ks[o]? = some ks[i] := by
        rw [e2]
        have : ∀ (l : List Nat) (h : l = ks) (hi' : i < l.length), some l[i] = some ks[i] := by intro l h hi'; subst h; rfl
        exact this place.toList hp _
      obtain ⟨ho1, ho2⟩ := List.getElem?_eq_some_iff.mp e3
      have : o = i := (List.getElem_inj hnd).mp ho2
      rw [e1, this, List.getElem?_range hi]
    · rw [List.getElem?_eq_none (by omega), List.getElem?_eq_none (by simp; omega)]
  subst ho
  rw [← hp]

theorem range_filterMap (es : Array (Int × Value)) : (Array.range es.size).filterMap (fun i => es[i]?) = es := by
  apply Array.toList_inj.mp
  rw [Array.toList_filterMap, Array.toList_range]
  exact filterMap_getElem?_range es

end Mine
end Sets1Part

section Sets2Part
open PySem PySem.W PyProof.Rows PySem.Calls
namespace Mine

theorem SetD.add {led : Bool} {ks : List Nat} {es : Array (Int × Value)} {t : SetTable} (x : SetD led true ks es t) {k : Nat} (hk : k ∉ ks) (h7 : k < 7) (tok : Tok) :
    ∃ p t', layNew t es k (.int k tok) = (SetTable.insertAt es p ((k : Int), .int k tok), t', false, false) ∧ SetD led true (ins ks k) (SetTable.insertAt es p ((k : Int), .int k tok)) t' := by
  have hs : t.place.toList.Pairwise (· < ·) := by rw [x.place]; exact x.sorted
  have hkp : k ∉ t.place.toList := by rw [x.place]; exact hk
  have hd := x.clean rfl
  have hfree := freeSlot_new hs hkp hd h7 x.mask
  have hput : t.put k = ({ t with place := SetTable.insertAt t.place (SetTable.below t.place k) k }, SetTable.below t.place k) := by
    unfold SetTable.put
    have : SetTable.has t.dummies k = false := by rw [hd]; simp [SetTable.has]
    simp only [this, Bool.false_eq_true, if_false]
  have hpl : (SetTable.insertAt t.place (SetTable.below t.place k) k).toList = ins ks k := by
    rw [insertAt_ins hs, x.place]
  have hlen : (ins ks k).length ≤ 7 := length_le_seven (sorted_ins x.sorted hk) fun j hj => by
    rcases mem_ins.mp hj with rfl | hj
    · exact h7
    · exact x.lt j hj
  have hkeys : (SetTable.insertAt es (SetTable.below t.place k) ((k : Int), Value.int k tok)).toList.map (·.1) = (ins ks k).map fun k : Nat => (k : Int) := by
    rw [SetTable.toList_insertAt, List.map_append, List.map_cons, List.map_take, List.map_drop, x.vals, ← hpl, SetTable.toList_insertAt, x.place, List.map_append, List.map_cons, List.map_take, List.map_drop]
  have hD : SetD led true (ins ks k) (SetTable.insertAt es (SetTable.below t.place k) ((k : Int), .int k tok)) { t with place := SetTable.insertAt t.place (SetTable.below t.place k) k } := by
    refine ⟨hkeys, ?_, sorted_ins x.sorted hk, fun j hj => ?_, hpl, x.mask, ?_, fun _ => hd, x.plain, x.led⟩
    · intro e he
      rw [SetTable.toList_insertAt] at he
      rcases List.mem_append.mp he with he | he
      · exact x.vints e (List.mem_of_mem_take he)
      · rcases List.mem_cons.mp he with rfl | he
        · exact ⟨tok, rfl⟩
        · exact x.vints e (List.mem_of_mem_drop he)
    · rcases mem_ins.mp hj with rfl | hj
      · exact h7
      · exact x.lt j hj
    · show t.dummies.size + _ ≤ 7
      rw [hd]; simpa using hlen
  refine ⟨SetTable.below t.place k, _, ?_, hD⟩
  unfold layNew
  rw [hfree]
  dsimp only
  rw [hput]
  dsimp only
  have hf := hD.fits
  unfold SetTable.orStandIn
  rw [if_pos hf, hf]
  rfl

theorem SetD.relay {led c : Bool} {ks : List Nat} {es : Array (Int × Value)} {t : SetTable} (x : SetD led c ks es t) (wanted : Nat) :
    ∃ t', t.relaid (es.map (·.1)) wanted = some (t', Array.range ks.length) ∧ SetD led true ks es t' := by
  have hm : 7 ≤ SetTable.sizeAbove wanted - 1 := by have := sizeAbove_ge wanted; omega
  refine ⟨_, laid_same x hm, ⟨x.vals, x.vints, x.sorted, x.lt, rfl, hm, ?_, fun _ => rfl, x.plain, x.led⟩⟩
  have := x.fill
  simp; omega

theorem SetD.relayAll {led c : Bool} {ks : List Nat} {es : Array (Int × Value)} {t : SetTable} (x : SetD led c ks es t) (wanted : Nat) :
    ∃ t', PySem.relayAll t es wanted = (es, t', false) ∧ SetD led true ks es t' := by
  obtain ⟨t', h1, h2⟩ := x.relay wanted
  refine ⟨t', ?_, h2⟩
  unfold PySem.relayAll
  rw [h1]
  dsimp only
  have hsz := x.size
  rw [← hsz, range_filterMap]
  have hc : coversAll (Array.range es.size) es.size = true := by
    unfold coversAll
    rw [Array.toList_range]
    exact List.isPerm_iff.mpr (List.Perm.refl _)
  rw [hc, h2.fits]
  rfl

section
variable {prog : Program} {w : World} {A : Around} {E : Value → Shared → Prop} {s : Shared} {a : Nat} {led c : Bool} {ks : List Nat}

theorem setO_get {φ : Prop} (h : At s a (SetO led c ks)) (k : ∀ o es ep t, s.heap.get? a = some o → o.ExactSet → o.data = .set es ep t → SetD led c ks es t → φ) : φ := by
  obtain ⟨o, g, hex, es, ep, t, hd, x⟩ := h
  exact k o es ep t g hex hd x

theorem store_ok {o : Obj} {es es' : Array (Int × Value)} {ep : Nat} {t t' : SetTable} {ks' : List Nat} {c' : Bool} {Q : Unit → Shared → Prop} (ho : s.heap.get? a = some o) (hex : o.ExactSet) (hd : o.data = .set es ep t) (x' : SetD led c' ks' es' t')
    (h : ∀ s', Kp (· = a) No s s' → s'.toks = s.toks → s'.heap.get? a = some { o with data := .set es' (ep + 1) t' } → At s' a (SetO led c' ks') → Q () s') :
    wpAny (model prog w) A (storeSet a es' t') Q E s := by
  have hg : (s.heap.update a (Obj.putSet es' t')).get? a = some { o with data := .set es' (ep + 1) t' } := by
    have := Heap.get?_update_self (Obj.putSet es' t') ho (by rw [putSet_of es' t' hd]; rfl)
    rw [putSet_of es' t' hd] at this; exact this
  refine wpAny_storeSet_of ho hd (h _ (Kp.same (tk := s.toks) (Heap.SameBut.update s.heap a _)) rfl hg ⟨_, hg, hex, es', ep + 1, t', rfl, x'⟩) ?_
  exact fits_of_scanBound x'.small

theorem setAddHashed_ok {k : Nat} {tok : Tok} {Q : Bool → Shared → Prop} (h : At s a (SetO led true ks)) (h7 : k < 7)
    (hQ : ∀ s', Kp (· = a) No s s' → At s' a (SetO led true (if k ∈ ks then ks else ins ks k)) → Q (decide (k ∉ ks)) s') :
    wpAny (model prog w) A (setAddHashed a (.int k tok) k) Q E s := by
  obtain ⟨o, g, hex, es, ep, t, hd, x⟩ := h
  have hkey : (intKind prog w).is (k : Int) (.int k tok) = true := by show ((k : Int) == (k : Int)) = true; simp
  have hh : ((k : Int)) = (intKind prog w).hash (k : Int) := (hash_small k h7).symm
  have hfi : (∀ j, es.toList.findIdx? (fun e => (intKind prog w).is (k : Int) e.2) = some j → k ∈ ks) ∧ (es.toList.findIdx? (fun e => (intKind prog w).is (k : Int) e.2) = none → k ∉ ks) := by
    constructor
    · intro j hj
      obtain ⟨hlt, hp, _⟩ := List.findIdx?_eq_some_iff_getElem.mp hj
      obtain ⟨n, hn, e⟩ := (x.iff (prog := prog) (w := w) (k : Int)).mp ⟨_, List.getElem_mem hlt, hp⟩
      have : n = k := by exact_mod_cast e
      exact this ▸ hn
    · intro hn hk
      obtain ⟨e, he, hp⟩ := (x.iff (prog := prog) (w := w) (k : Int)).mpr ⟨k, hk, rfl⟩
      have := List.findIdx?_eq_none_iff.mp hn e he
      rw [hp] at this; exact Bool.noConfusion this
  unfold setAddHashed setAddHashedIn
  refine wpAny_holding (wpAny_bind (wpAny_setState_of g hd x.fits ?_))
  dsimp only
  rw [byScan_of (knd := intKind prog w) (show (Value.int (k : Int) tok).scannable = true from rfl) x.small x.elems]
  simp only [↓reduceIte]
  unfold setAddByScan
  refine wpAny_bind ?_
  refine wpAny_bind (wpAny_rule ?_)
  have scan : ∀ {Q' : ScanMet → Shared → Prop}, Q' (match es.toList.findIdx? (fun e => (intKind prog w).is (k : Int) e.2) with | some j => .found (0 + j) | none => .absent) s → wpAny (model prog w) A (setScan a (.int k tok) (k : Int) true es) Q' E s := by
    intro Q' hq
    have := wpAny_setScan_of (knd := intKind prog w) (A := A) (E := E) (adding := true) hkey g hd x.fits x.elems hq
    rw [← hh] at this; exact this
  refine wpAny_bind (scan ?_)
  cases hr : es.toList.findIdx? (fun e => (intKind prog w).is (k : Int) e.2) with
  | some j =>
    have hk := hfi.1 j hr
    dsimp only
    refine wpAny_pure (wpAny_pure ?_)
    have := hQ s (Kp.refl s) ⟨o, g, hex, es, ep, t, hd, by rw [if_pos hk]; exact x⟩
    simpa [hk] using this
  | none =>
    have hk := hfi.2 hr
    dsimp only
    obtain ⟨p, t', hl, x'⟩ := x.add hk h7 tok
    rw [hl]
    dsimp only
    refine wpAny_bind (wpAny_pure ?_)
    have hend : ∀ s', Kp (· = a) No s s' → At s' a (SetO led true (ins ks k)) → Q true s' := by
      intro s' e1 e2
      have := hQ s' e1 (by rw [if_neg hk]; exact e2)
      simpa [hk] using this
    have hplain : t'.plain = true := x'.plain
    rw [if_pos hplain]
    refine wpAny_bind ?_
    rw [hashByValue_scannable 8 (show (Value.int (k : Int) tok).scannable = true from rfl)]
    refine wpAny_pure ?_
    simp only [plainKind, ↓reduceIte]
    refine wpAny_bind (store_ok g hex hd x' fun s1 e1 _ g1 a1 => ?_)
    split
    · obtain ⟨t2, hl2, x2⟩ := x'.relayAll (SetTable.grown (SetTable.insertAt es p ((k : Int), Value.int k tok)).size)
      rw [hl2]
      dsimp only
      refine wpAny_bind (wpAny_pure ?_)
      refine wpAny_bind (store_ok g1 hex rfl x2 fun s2 e2 _ _ a2 => ?_)
      exact wpAny_pure (wpAny_pure (hend s2 (e1.trans e2) a2))
    · exact wpAny_pure (wpAny_pure (hend s1 e1 a1))
end
end Mine
end Sets2Part

section Sets3Part
open PySem PySem.W PyProof.Rows PySem.Calls
namespace Mine

def ledOf (w : World) : Bool := !(w.params.followText "set-order")

section
variable {prog : Program} {w : World} {A : Around} {E : Value → Shared → Prop} {s : Shared} {a : Nat} {c : Bool} {ks : List Nat}

theorem set_new_code {args : List Value} {Q₁ : Value → Shared → Prop} (hnc : checkBuiltinCall "set.__new__" ⟨.type "set" :: args, []⟩ = pure ())
    (h : Q₁ (.ref s.heap.objs.size) { s with heap := s.heap.push { cls := .type "set", dict := none, data := .set #[] 0 (.fresh 0 0 (ledOf w)) } }) :
    codeAny (model prog w) A (.call (.builtin "set.__new__") ⟨.type "set" :: args, []⟩) (wants Q₁ E) s := by
  refine codeAny_of_tree ?_
  show wpAny _ A.in1 (do checkBuiltinCall "set.__new__" ⟨.type "set" :: args, []⟩; again (.builtin "set.__new__" ⟨.type "set" :: args, []⟩)) _ _ s
  refine wpAny_bind (wpAny_of_eq hnc (wpAny_pure ⟨plainId_quiet F.plain_set_new _, codeAny_builtin F.entry_set_new ?_⟩))
  rw [Around.under_plainId F.plain_set_new _]
  unfold Builtin.«set.__new__» Builtin.Frozenset.newClass
  have hsub := sub_set_self
  obtain ⟨hp, g, d, tk, os⟩ := s
  dsimp only
  wp_walk
  refine wpAny_askSetting (wpAny_pure ?_)
  dsimp only
  simp only [newObj]
  refine wpAny_bind (wpAny_alloc (wpAny_pure ?_))
  exact wpAny_pure h

set_option maxHeartbeats 1000000 in
theorem code_set_with {args : List Value} {Q : Value → Shared → Prop} (hct : checkTypeCall "set" ⟨args, []⟩ = pure ()) (hnc : checkBuiltinCall "set.__new__" ⟨.type "set" :: args, []⟩ = pure ())
    (init : ∀ s₁ : Shared, s₁ = { s with heap := s.heap.push { cls := .type "set", dict := none, data := .set #[] 0 (.fresh 0 0 (ledOf w)) } } →
      codeAny (model prog w) A.in1 (.call (.builtin "set.__init__") ⟨.ref s.heap.objs.size :: args, []⟩) (wants (fun r s₂ => r = .none ∧ Q (.ref s.heap.objs.size) s₂) E) s₁) :
    codeAny (model prog w) A (.call (.type "set") ⟨args, []⟩) (wants Q E) s := by
  obtain ⟨c, tl, hmro⟩ := F.called_set.mro
  have hmade := F.called_set.made
  have hsub := F.called_set.sub
  refine codeAny_of_tree ?_
  show wpAny _ _ (callAny (.type "set") _) _ _ _
  refine wpAny_pure ⟨Code.quiet_builtin _ (by decide +kernel), codeAny_builtin F.entry_type_call ?_⟩
  rw [Around.under_plain (weight_type_call_type "set" args []) rfl]
  have h1 := F.called_set.notType
  have h2 := F.called_set.canCreate
  repeat (any_goals (first | assumption | wp_step))
  refine codeAny_mono (set_new_code (E := E) (Q₁ := fun obj s₁ => obj = .ref s.heap.objs.size ∧ s₁ = { s with heap := s.heap.push { cls := .type "set", dict := none, data := .set #[] 0 (.fresh 0 0 (ledOf w)) } }) hnc ⟨rfl, rfl⟩) fun r s₁ hr => ?_
  cases r with
  | error e => exact hr
  | ok fl =>
    cases fl with
    | ret obj =>
      obtain ⟨rfl, hs⟩ := hr
      have hT : s₁.TypeIs (.ref s.heap.objs.size) "set" := by subst hs; exact ⟨_, Heap.get?_push_size _ rfl, rfl⟩
      have hli := F.called_set.init.lookup
      have hbi := F.called_set.init.bind (.ref s.heap.objs.size)
      have hgo := init s₁ hs
      clear init hs
      repeat (any_goals (first | assumption | wp_step))
      refine codeAny_mono hgo fun r₂ s₂ hr₂ => ?_
      cases r₂ with
      | error e => exact hr₂
      | ok fl₂ =>
        cases fl₂ with
        | ret r =>
          obtain ⟨rfl, hq⟩ := hr₂
          repeat (any_goals (first | assumption | wp_step))
        | _ => exact hr₂.elim
    | _ => exact hr.elim

theorem call_set_with {args : List Value} {Q : Value → Shared → Prop} (hct : checkTypeCall "set" ⟨args, []⟩ = pure ()) (hnc : checkBuiltinCall "set.__new__" ⟨.type "set" :: args, []⟩ = pure ())
    (init : ∀ s₁ : Shared, s₁ = { s with heap := s.heap.push { cls := .type "set", dict := none, data := .set #[] 0 (.fresh 0 0 (ledOf w)) } } →
      codeAny (model prog w) A.in1 (.call (.builtin "set.__init__") ⟨.ref s.heap.objs.size :: args, []⟩) (wants (fun r s₂ => r = .none ∧ Q (.ref s.heap.objs.size) s₂) E) s₁) :
    wpAny (model prog w) A (call (.type "set") args) Q E s := wpAny_call (code_set_with hct hnc init)

theorem SetD.empty (led : Bool) : SetD led true [] #[] (.fresh 0 0 led) :=
  ⟨rfl, fun e he => by simp at he, .nil, fun k hk => by simp at hk, rfl, Nat.le_refl _, by simp [SetTable.fresh], fun _ => rfl, rfl, rfl⟩

theorem code_set_empty {Q : Value → Shared → Prop} (h : ∀ s' a, Kp No No s s' → a = s.heap.objs.size → At s' a (SetO (ledOf w) true []) → Q (.ref a) s') :
    codeAny (model prog w) A (.call (.type "set") ⟨[], []⟩) (wants Q E) s := by
  refine code_set_with F.typeCall_set_0 F.newCall_set_0 fun s₁ hs => ?_
  have hT : s₁.TypeIs (.ref s.heap.objs.size) "set" := by subst hs; exact ⟨_, Heap.get?_push_size _ rfl, rfl⟩
  have hA : At s₁ s.heap.objs.size (SetO (ledOf w) true []) := by
    subst hs; exact At.push rfl ⟨⟨rfl, rfl, rfl⟩, #[], 0, _, rfl, SetD.empty _⟩
  have hK : Kp No No s s₁ := by subst hs; exact Kp.push (tk := s.toks)
  refine codeAny_call_builtin F.called_set.init.plain F.entry_set_init (check_set_init hT ?_)
  unfold Builtin.«set.__init__» noKeywords
  obtain ⟨o, g, hex, es, ep, t, hd, x⟩ := hA
  obtain ⟨cls, dict, data, slots⟩ := o
  obtain ⟨rfl, rfl, rfl⟩ : cls = .type "set" ∧ dict = none ∧ slots = #[] := hex
  have hd' : data = .set es ep t := hd
  subst hd'
  have hQ := h s₁ _ hK rfl ⟨_, g, ⟨rfl, rfl, rfl⟩, es, ep, t, rfl, x⟩
  have hfit := x.fits
  have hfill : (t.fill != 0) = false := by
    have h1 := x.fill
    have h2 := x.clean rfl
    have h3 : t.place.size = 0 := by rw [← Array.length_toList, x.place]; rfl
    simp [SetTable.fill, h2, h3]
  have hc : (t.place.size != es.size || decide (t.fill > t.mask)) = false := by
    simp only [SetTable.fits, Bool.and_eq_true, beq_iff_eq, decide_eq_true_eq] at hfit
    simp [hfit.1, Nat.not_lt.mpr hfit.2]
  obtain ⟨hp, gg, d, tk, os⟩ := s₁
  wp_walk
  exact ⟨rfl, hQ⟩

theorem call_set_empty {Q : Value → Shared → Prop} (h : ∀ s' a, Kp No No s s' → a = s.heap.objs.size → At s' a (SetO (ledOf w) true []) → Q (.ref a) s') :
    wpAny (model prog w) A (call (.type "set") []) Q E s := wpAny_call (code_set_empty h)
end
end Mine
end Sets3Part

section Sets4Part
open PySem PySem.W PyProof.Rows PySem.Calls
namespace Mine

theorem toList_eraseAt {α : Type} (xs : Array α) (p : Nat) : (SetTable.eraseAt xs p).toList = xs.toList.eraseIdx p := by
  rw [List.eraseIdx_eq_take_drop_succ]
  simp [SetTable.eraseAt, List.extract_eq_take_drop, List.take_of_length_le]

theorem map_eraseIdx {α β : Type} (f : α → β) : ∀ (l : List α) (i : Nat), (l.eraseIdx i).map f = (l.map f).eraseIdx i
  | [], _ => rfl
  | _ :: _, 0 => rfl
  | x :: t, i + 1 => by simp [map_eraseIdx f t i]

theorem eraseIdx_filter : ∀ {ks : List Nat} {j k : Nat}, ks.Nodup → ks[j]? = some k → ks.eraseIdx j = ks.filter (fun x => x != k) := by
  intro ks
  induction ks with
  | nil => intro j k _ h; simp at h
  | cons x t ih =>
    intro j k hnd h
    have hn := List.nodup_cons.mp hnd
    cases j with
    | zero =>
      simp at h
      subst h
      have : t.filter (fun y => y != x) = t := List.filter_eq_self.mpr fun y hy => by
        have : y ≠ x := fun e => hn.1 (e ▸ hy)
        simpa using this
      simp [this]
    | succ j =>
      simp at h
      have hx : x ≠ k := fun e => hn.1 (e ▸ (List.mem_of_getElem? h))
      simp [ih hn.2 h, hx]

theorem findIdx_ents {ks : List Nat} {l : List (Int × Value)} (hv : l.map (·.1) = ks.map fun k : Nat => (k : Int)) (hi : ∀ e ∈ l, ∃ tok, e.2 = .int e.1 tok) (k : Nat) (p : Value → Bool)
    (hp : ∀ (n : Nat) tok, p (.int n tok) = decide (n = k)) : l.findIdx? (fun e => p e.2) = ks.findIdx? (· == k) := by
  induction l generalizing ks with
  | nil => cases ks <;> simp_all
  | cons e t ih =>
    cases ks with
    | nil => simp at hv
    | cons x r =>
      simp only [List.map_cons, List.cons.injEq] at hv
      obtain ⟨tok, he⟩ := hi e (by simp)
      rw [hv.1] at he
      have := ih hv.2 (fun y hy => hi y (by simp [hy]))
      simp only [List.findIdx?_cons, he, hp, this]
      by_cases h : x = k <;> simp [h]

section
variable {prog : Program} {w : World} {A : Around} {E : Value → Shared → Prop} {s : Shared} {a : Nat} {led c : Bool} {ks : List Nat}

theorem setFind_ok {k : Nat} {tok : Tok} {Q : Option Nat → Shared → Prop} (h : At s a (SetO led c ks)) (h7 : k < 7)
    (hQ : Q (ks.findIdx? (· == k)) s) : wpAny (model prog w) A (setFind a (.int k tok) k) Q E s := by
  obtain ⟨o, g, hex, es, ep, t, hd, x⟩ := h
  have hkey : (intKind prog w).is (k : Int) (.int k tok) = true := by show ((k : Int) == (k : Int)) = true; simp
  have hh : ((k : Int)) = (intKind prog w).hash (k : Int) := (hash_small k h7).symm
  have hf : es.toList.findIdx? (fun e => (intKind prog w).is (k : Int) e.2) = ks.findIdx? (· == k) :=
    findIdx_ents x.vals x.vints k _ fun n tk => by
      show ((n : Int) == (k : Int)) = decide (n = k)
      by_cases e : n = k
      · simp [e]
      · have : ¬ (n : Int) = (k : Int) := by omega
        simp [e, this]
  unfold setFind setFindIn
  refine wpAny_bind (wpAny_setState_of g hd x.fits ?_)
  dsimp only
  rw [byScan_of (knd := intKind prog w) (show (Value.int (k : Int) tok).scannable = true from rfl) x.small x.elems]
  simp only [↓reduceIte]
  refine wpAny_bind (wpAny_rule ?_)
  have scan : ∀ {Q' : ScanMet → Shared → Prop}, Q' (match es.toList.findIdx? (fun e => (intKind prog w).is (k : Int) e.2) with | some j => .found (0 + j) | none => .absent) s → wpAny (model prog w) A (setScan a (.int k tok) (k : Int) false es) Q' E s := by
    intro Q' hq
    have := wpAny_setScan_of (knd := intKind prog w) (A := A) (E := E) (adding := false) hkey g hd x.fits x.elems hq
    rw [← hh] at this; exact this
  refine wpAny_bind (scan ?_)
  rw [hf]
  cases hr : ks.findIdx? (· == k) with
  | none => rw [hr] at hQ; exact wpAny_pure hQ
  | some j => rw [hr] at hQ; dsimp only; rw [Nat.zero_add]; exact wpAny_pure hQ

theorem SetD.drop {es : Array (Int × Value)} {t : SetTable} (x : SetD led c ks es t) {j k : Nat} (hj : ks[j]? = some k) : SetD led false (ks.filter (fun y => y != k)) (SetTable.eraseAt es j) (t.drop j) := by
  have hnd := nodup_of_sorted x.sorted
  have he := eraseIdx_filter hnd hj
  have hpl : t.place[j]? = some k := by
    rw [← Array.getElem?_toList, x.place]; exact hj
  have hdrop : t.drop j = { t with place := SetTable.eraseAt t.place j, dummies := SetTable.insertAt t.dummies (SetTable.below t.dummies k) k } := by
    unfold SetTable.drop; rw [hpl]
  rw [hdrop, ← he]
  have hlt : j < ks.length := (List.getElem?_eq_some_iff.mp hj).1
  refine ⟨?_, fun e hm => ?_, ?_, fun y hy => ?_, ?_, x.mask, ?_, (fun h => nomatch h), x.plain, x.led⟩
  · rw [toList_eraseAt, map_eraseIdx, x.vals, map_eraseIdx]
  · rw [toList_eraseAt] at hm
    exact x.vints e (List.mem_of_mem_eraseIdx hm)
  · exact x.sorted.sublist (List.eraseIdx_sublist _ _)
  · exact x.lt y (List.mem_of_mem_eraseIdx hy)
  · show (SetTable.eraseAt t.place j).toList = _
    rw [toList_eraseAt, x.place]
  · have h1 := x.fill
    have h2 : (SetTable.insertAt t.dummies (SetTable.below t.dummies k) k).size = t.dummies.size + 1 := by
      rw [← Array.length_toList, (SetTable.insertAt_perm _ _ _).length_eq]; simp
    show (SetTable.insertAt t.dummies (SetTable.below t.dummies k) k).size + _ ≤ 7
    rw [h2, List.length_eraseIdx_of_lt hlt]; omega

theorem filter_of_not_mem {k : Nat} (h : k ∉ ks) : ks.filter (fun y => y != k) = ks := List.filter_eq_self.mpr fun y hy => by
  have : y ≠ k := fun e => h (e ▸ hy)
  simpa using this

theorem setO_clean_off (h : At s a (SetO led c ks)) : At s a (SetO led false ks) :=
  h.imp fun _ ⟨hex, es, ep, t, hd, x⟩ => ⟨hex, es, ep, t, hd, ⟨x.vals, x.vints, x.sorted, x.lt, x.place, x.mask, x.fill, (fun e => nomatch e), x.plain, x.led⟩⟩

theorem setDiscardHashed_ok {k : Nat} {tok : Tok} {Q : Bool → Shared → Prop} (h : At s a (SetO led c ks)) (h7 : k < 7)
    (hQ : ∀ s', Kp (· = a) No s s' → At s' a (SetO led false (ks.filter (fun y => y != k))) → Q (decide (k ∈ ks)) s') : wpAny (model prog w) A (setDiscardHashed a (.int k tok) k) Q E s := by
  unfold setDiscardHashed
  refine wpAny_bind (setFind_ok h h7 ?_)
  cases hr : ks.findIdx? (· == k) with
  | none =>
    have hk : k ∉ ks := fun e => by
      have := List.findIdx?_eq_none_iff.mp hr k e
      simp at this
    have := hQ s (Kp.refl s) (by rw [filter_of_not_mem hk]; exact setO_clean_off h)
    simp only [hk, decide_false] at this
    exact wpAny_pure this
  | some j =>
    obtain ⟨hlt, hp, _⟩ := List.findIdx?_eq_some_iff_getElem.mp hr
    have hj : ks[j]? = some k := by rw [List.getElem?_eq_getElem hlt]; simpa using hp
    have hk : k ∈ ks := List.mem_of_getElem? hj
    obtain ⟨o, g, hex, es, ep, t, hd, x⟩ := h
    dsimp only
    refine wpAny_bind (wpAny_setState_of g hd x.fits ?_)
    dsimp only
    refine wpAny_bind (store_ok g hex hd (x.drop hj) fun s' e _ _ a' => ?_)
    refine wpAny_bind (wpAny_point (wpAny_pure ?_))
    have := hQ s' e a'
    simpa [hk] using this

theorem hash_eq {k : Nat} (h7 : k < 7) : (intKind prog w).hash (k : Int) = (k : Int) := hash_small k h7

theorem pyHash_ok {k : Nat} {tok : Tok} {Q : Int → Shared → Prop} (h7 : k < 7) (h : ∀ s', Kp No No s s' → Q k s') : wpAny (model prog w) A (pyHash (.int k tok)) Q E s := by
  refine (intKind prog w).pyHash (k := (k : Int)) (intKind_is _ _ _ _) ?_
  rw [hash_eq h7]
  exact h _ Kp.toks

theorem kp_no {s s' : Shared} {P : Nat → Prop} {D : Nat → Prop} (e : Kp No No s s') : Kp P D s s' := e.mono (fun _ _ _ h => h.elim) (fun _ _ h => h.elim)

theorem setDiscard_ok {k : Nat} {tok : Tok} {Q : Bool → Shared → Prop} (h : At s a (SetO led c ks)) (h7 : k < 7)
    (hQ : ∀ s', Kp (· = a) No s s' → At s' a (SetO led false (ks.filter (fun y => y != k))) → Q (decide (k ∈ ks)) s') : wpAny (model prog w) A (setDiscard a (.int k tok)) Q E s := by
  unfold setDiscard
  refine wpAny_holding (wpAny_bind (pyHash_ok h7 fun s1 e1 => ?_))
  exact setDiscardHashed_ok (h.kp e1 id) h7 fun s2 e2 a2 => hQ s2 ((kp_no e1).trans e2) a2

theorem setAdd_ok {k : Nat} {tok : Tok} {Q : Bool → Shared → Prop} (h : At s a (SetO led true ks)) (h7 : k < 7)
    (hQ : ∀ s', Kp (· = a) No s s' → At s' a (SetO led true (if k ∈ ks then ks else ins ks k)) → Q (decide (k ∉ ks)) s') : wpAny (model prog w) A (setAdd a (.int k tok)) Q E s := by
  unfold setAdd
  refine wpAny_holding (wpAny_bind (pyHash_ok h7 fun s1 e1 => ?_))
  exact setAddHashed_ok (h.kp e1 id) h7 fun s2 e2 a2 => hQ s2 ((kp_no e1).trans e2) a2

theorem setContains_ok {k : Nat} {tok : Tok} {Q : Bool → Shared → Prop} (h : At s a (SetO led c ks)) (h7 : k < 7)
    (hQ : ∀ s', Kp No No s s' → Q (decide (k ∈ ks)) s') : wpAny (model prog w) A (setContains a (.int k tok)) Q E s := by
  unfold setContains
  refine wpAny_holding (wpAny_bind (pyHash_ok h7 fun s1 e1 => ?_))
  refine wpAny_bind (setFind_ok (h.kp e1 id) h7 (wpAny_pure ?_))
  have := hQ s1 e1
  cases hr : ks.findIdx? (· == k) with
  | none =>
    have hk : k ∉ ks := fun e => by
      have := List.findIdx?_eq_none_iff.mp hr k e
      simp at this
    simpa [hk] using this
  | some j =>
    obtain ⟨hlt, hp, _⟩ := List.findIdx?_eq_some_iff_getElem.mp hr
    have hk : k ∈ ks := by
      have : ks[j] = k := by simpa using hp
      exact this ▸ List.getElem_mem hlt
    simpa [hk] using this

theorem setO_typeIs (h : At s a (SetO led c ks)) : s.TypeIs (.ref a) "set" := let ⟨o, g, hex, _⟩ := h; ⟨o, g, hex.1⟩
theorem setO_noDict (h : At s a (SetO led c ks)) : ∀ b, Value.ref a = .ref b → ∃ ob, s.heap.get? b = some ob ∧ ob.dict = none := fun b e => by
  injection e with e; subst e; exact let ⟨o, g, hex, _⟩ := h; ⟨o, g, hex.2.1⟩

theorem call_set_add_ok {k : Nat} {tok : Tok} {Q : Value → Shared → Prop} (h : At s a (SetO led true ks)) (h7 : k < 7)
    (hQ : ∀ s', Kp (· = a) No s s' → At s' a (SetO led true (if k ∈ ks then ks else ins ks k)) → Q .none s') :
    wpAny (model prog w) A (call (.builtin "set.add") [.ref a, .int k tok]) Q E s := by
  refine wpAny_call_entry F.slot_set_add (setO_typeIs h) F.entry_set_add ?_ (F.args_set_add_2 _ _)
  unfold Builtin.«set.add» Builtin.Frozenset.oneOther
  simp only [List.isEmpty_nil, bind_assoc]
  unfold Builtin.Frozenset.addrOf
  refine wpAny_bind (wpAny_pure ?_)
  refine wpAny_bind (wpAny_pure ?_)
  dsimp only
  refine wpAny_bind (setAdd_ok h h7 fun s' e a' => ?_)
  exact wpAny_pure ⟨_, rfl, hQ s' e a'⟩
end
end Mine
end Sets4Part

section ListsPart
open PySem PySem.W PyProof.Rows PySem.Calls
namespace Mine

def ListO (vs : List Value) (o : Obj) : Prop := o.cls = .type "list" ∧ o.dict = none ∧ ∃ n, o.data = .seq vs.toArray n
def IterO (l : Nat) (i : Nat) (o : Obj) : Prop := o.cls = .type "list_iterator" ∧ o.data = .fields #[.ref l, .int i 0]
def NatsAre (vs : List Value) (ns : List Nat) : Prop := IntsAre vs (ns.map fun k : Nat => (k : Int))
/-- a list of small ints -/
def NatsO (ns : List Nat) (o : Obj) : Prop := ∃ vs, ListO vs o ∧ NatsAre vs ns

theorem NatsAre.length {vs ns} (h : NatsAre vs ns) : vs.length = ns.length := by have := IntsAre.length h; simpa using this
theorem NatsAre.get {vs ns} (h : NatsAre vs ns) {i k : Nat} (hk : ns[i]? = some k) : ∃ t, vs[i]? = some (.int k t) :=
  IntsAre.get h i k (by simp [hk])
theorem NatsAre.nil : NatsAre [] [] := IntsAre.nil
theorem NatsAre.snoc {vs ns} (h : NatsAre vs ns) (k : Nat) (t : Tok) : NatsAre (vs ++ [.int k t]) (ns ++ [k]) := by
  have := IntsAre.append h (IntsAre.cons (k : Int) t IntsAre.nil)
  simpa [NatsAre] using this

section
variable {prog : Program} {w : World} {A : Around} {E : Value → Shared → Prop} {s : Shared} {a l it : Nat} {led c : Bool} {ks : List Nat} {vs : List Value}

theorem listO_isList (h : At s l (ListO vs)) : s.heap.IsList l vs.toArray := let ⟨o, g, hc, _, n, hd⟩ := h; ⟨o, g, hc, n, hd⟩
theorem listO_typeIs (h : At s l (ListO vs)) : s.TypeIs (.ref l) "list" := (listO_isList h).typeIs
theorem listO_noDict (h : At s l (ListO vs)) : ∀ b, Value.ref l = .ref b → ∃ ob, s.heap.get? b = some ob ∧ ob.dict = none := fun b e => by
  injection e with e; subst e; exact let ⟨o, g, _, hd, _⟩ := h; ⟨o, g, hd⟩
theorem natsO_list {ns : List Nat} (h : At s l (NatsO ns)) : ∃ vs, At s l (ListO vs) ∧ NatsAre vs ns := let ⟨o, g, vs, a, b⟩ := h; ⟨vs, ⟨o, g, a⟩, b⟩

theorem next_item {i : Nat} {v : Value} {Q : Option Value → Shared → Prop} (hi : At s it (IterO l i)) (hl : At s l (ListO vs)) (hx : vs[i]? = some v)
    (hQ : ∀ s', Kp (· = it) No s s' → At s' it (IterO l (i + 1)) → Q (some v) s') : wpAny (model prog w) A (pyNext (.ref it)) Q E s := by
  refine wpAny_pyNext_list_item (items := vs.toArray) (i := i) (l := l) hi (listO_isList hl) (by simpa using hx) fun h' h1 h2 => ?_
  exact hQ _ (Kp.same (tk := s.toks) h2) h1

theorem next_end {i : Nat} {Q : Option Value → Shared → Prop} (hh : A.handled = none) (hi : At s it (IterO l i)) (hl : At s l (ListO vs)) (hx : vs[i]? = none)
    (hQ : ∀ s', Kp (· = it) No s s' → Q none s') : wpAny (model prog w) A (pyNext (.ref it)) Q E s := by
  refine wpAny_pyNext_list_end (items := vs.toArray) (i := i) (l := l) hh hi (listO_isList hl) (by simpa using hx) fun h' h2 => ?_
  exact hQ _ (Kp.ext (tk := s.toks) h2)

theorem iter_list {Q : Value → Shared → Prop} (hl : At s l (ListO vs))
    (hQ : ∀ s' it, Kp No No s s' → it = s.heap.objs.size → At s' it (IterO l 0) → Q (.ref it) s') : wpAny (model prog w) A (pyIter (.ref l)) Q E s := by
  refine wpAny_pyIter_list (listO_isList hl) (hQ _ _ (Kp.push (tk := s.toks)) rfl ?_)
  exact At.push rfl ⟨rfl, rfl⟩

theorem entry_du_loop : entryFor table "set.difference_update.loop" = some Builtin.«set.difference_update.loop» := entryFor_of_tree (by kernel_rfl)
theorem plain_du_loop : plainId "set.difference_update.loop" = true := by decide +kernel

theorem du_loop {ns : List Nat} {R : Result → Shared → Prop} (hh : A.in1.handled = none) (hv : NatsAre vs ns) (h7 : ∀ k ∈ ns, k < 7) (hal : a ≠ l) (hai : a ≠ it) (hil : it ≠ l) :
    ∀ (k i : Nat) (s : Shared) (ks : List Nat), ns.length - i = k → At s a (SetO led c ks) → At s l (ListO vs) → At s it (IterO l i) →
      (∀ s', Kp (fun b => b = a ∨ b = it) No s s' → (∃ c', At s' a (SetO led c' (ks.filter fun x => ! (ns.drop i).contains x))) → R (.ok (.ret .none)) s') →
      codeAny (model prog w) A (.builtin "set.difference_update.loop" ⟨[.ref a, .ref it], []⟩) R s := by
  intro k
  induction k generalizing c with
  | zero =>
    intro i s ks hk ha hl hi hR
    refine codeAny_builtin entry_du_loop ?_
    rw [Around.under_plainId plain_du_loop _]
    show wpAny _ A.in1 (pyNext (.ref it) >>= _) _ _ s
    refine wpAny_bind (next_end hh hi hl (by rw [List.getElem?_eq_none]; rw [hv.length]; omega) fun s' e => ?_)
    show wpAny _ A.in1 (ret Value.none) _ _ s'
    refine wpAny_pure (hR s' (e.mono (fun b _ _ h => .inr h) fun _ _ h => h) ⟨c, ?_⟩)
    have hd : ns.drop i = [] := List.drop_eq_nil_of_le (by omega)
    have hf : ks.filter (fun x => ! (ns.drop i).contains x) = ks := by rw [hd]; exact List.filter_eq_self.mpr fun _ _ => rfl
    rw [hf]
    exact ha.kp e hai
  | succ k ih =>
    intro i s ks hk ha hl hi hR
    have hlt : i < ns.length := by omega
    obtain ⟨t, ht⟩ := hv.get (List.getElem?_eq_getElem hlt)
    have hx7 : ns[i] < 7 := h7 _ (List.getElem_mem hlt)
    refine codeAny_builtin entry_du_loop ?_
    rw [Around.under_plainId plain_du_loop _]
    show wpAny _ A.in1 (pyNext (.ref it) >>= _) _ _ s
    refine wpAny_bind (next_item hi hl ht fun s1 e1 i1 => ?_)
    show wpAny _ A.in1 (holding [Value.int (ns[i] : Int) t] (setDiscard a (.int (ns[i] : Int) t)) >>= _) _ _ s1
    refine wpAny_bind (wpAny_holding (setDiscard_ok (ha.kp e1 hai) hx7 fun s2 e2 a2 => ?_))
    refine wpAny_pure ⟨plainId_quiet plain_du_loop _, ?_⟩
    refine ih (i + 1) s2 _ (by omega) a2 ((hl.kp e1 (Ne.symm hil)).kp e2 (Ne.symm hal)) (i1.kp e2 (Ne.symm hai)) fun s3 e3 ⟨c3, a3⟩ => ?_
    refine hR s3 (((e1.mono (fun b _ _ h => .inr h) fun _ _ h => h).trans (e2.mono (fun b _ _ h => .inl h) fun _ _ h => h)).trans e3) ⟨c3, ?_⟩
    rw [List.filter_filter] at a3
    have : (fun x => (! (ns.drop (i + 1)).contains x) && (x != ns[i])) = fun x => ! (ns.drop i).contains x := by
      funext x
      rw [List.drop_eq_getElem_cons hlt, List.contains_cons]
      by_cases h : x = ns[i]
      · simp [h]
      · have h1 : (x == ns[i]) = false := by simpa using h
        rw [bne, h1]; simp
    rw [this] at a3
    exact a3

theorem sizeAbove_small : ∀ n, n ≤ 7 → SetTable.sizeAbove (SetTable.grown n) ≤ 64 := by decide

theorem setRelay_ok {wanted : Nat} {Q : Unit → Shared → Prop} (h : At s a (SetO led c ks)) (hw : SetTable.sizeAbove wanted ≤ 64) (hQ : ∀ s', Kp (· = a) No s s' → At s' a (SetO led true ks) → Q () s') :
    wpAny (model prog w) A (setRelay a wanted) Q E s := by
  obtain ⟨o, g, hex, es, ep, t, hd, x⟩ := h
  obtain ⟨t', h1, h2⟩ := x.relay wanted
  unfold setRelay
  refine wpAny_bind (wpAny_setState_of g hd x.fits ?_)
  dsimp only
  have hle : ¬ SetTable.sizeAbove wanted > sizeLine := by rw [sizeLine_eq]; omega
  rw [if_neg hle]
  rw [h1]
  refine wpAny_bind ?_
  wp_delta
  have hes : (Array.range ks.length).filterMap (fun i => es[i]?) = es := by rw [← x.size]; exact range_filterMap es
  rw [hes]
  have hne : (es.size != es.size) = false := by simp
  rw [hne]
  refine wpAny_pure ?_
  exact store_ok g hex hd h2 fun s' e _ _ a' => hQ s' e a'

theorem setTidy_ok {Q : Unit → Shared → Prop} (h : At s a (SetO led c ks)) (hQ : ∀ s' c', Kp (· = a) No s s' → At s' a (SetO led c' ks) → Q () s') :
    wpAny (model prog w) A (setTidy a) Q E s := by
  obtain ⟨o, g, hex, es, ep, t, hd, x⟩ := h
  unfold setTidy
  refine wpAny_bind (wpAny_setState_of g hd x.fits ?_)
  dsimp only
  split
  · refine setRelay_ok ⟨o, g, hex, es, ep, t, hd, x⟩ (sizeAbove_small _ (by rw [x.size]; have := x.fill; omega)) fun s' e a' => hQ s' _ e a'
  · exact wpAny_pure (hQ s c (Kp.refl s) ⟨o, g, hex, es, ep, t, hd, x⟩)
end
end Mine
end ListsPart

section Lists2Part
open PySem PySem.W PyProof.Rows PySem.Calls
namespace Mine
section
variable {prog : Program} {w : World} {A : Around} {E : Value → Shared → Prop} {s : Shared} {a l it : Nat} {led c : Bool} {ks ns : List Nat} {vs : List Value}

theorem notSet_list {Q : Bool → Shared → Prop} (hT : s.TypeIs (.ref l) "list") (hQ : Q false s) : wpAny (model prog w) A (Builtin.Frozenset.isAnySet (.ref l)) Q E s := by
  unfold Builtin.Frozenset.isAnySet
  have h1 := F.sub_list_set
  have h2 := F.sub_list_frozenset
  refine wpAny_bind (wpAny_isInstance hT h1 ?_)
  exact wpAny_isInstance hT h2 hQ

theorem kp_new {P P' : Nat → Prop} {D : Nat → Prop} {s s1 s2 : Shared} (x : Kp No No s s1) (y : Kp P D s1 s2) (h : ∀ b o, s.heap.get? b = some o → P b → P' b) : Kp P' D s s2 :=
  ((kp_no (P := P) (D := D) x).trans y).mono h fun _ _ h => h

theorem call_du (hh : A.handled = none) (ha : At s a (SetO led c ks)) (hl : At s l (NatsO ns)) (h7 : ∀ k ∈ ns, k < 7) (hal : a ≠ l) {Q : Value → Shared → Prop}
    (hQ : ∀ s' c', Kp (· = a) No s s' → At s' a (SetO led c' (ks.filter fun x => ! ns.contains x)) → Q .none s') :
    wpAny (model prog w) A (call (.builtin "set.difference_update") [.ref a, .ref l]) Q E s := by
  obtain ⟨vs, hl, hv⟩ := natsO_list hl
  refine wpAny_call_entry F.slot_set_difference_update (setO_typeIs ha) F.entry_set_difference_update ?_ (F.args_set_difference_update_2 _ _)
  unfold Builtin.«set.difference_update» Builtin.Frozenset.manyOthers
  simp only [List.isEmpty_nil, bind_assoc, Bool.not_true, Bool.false_eq_true, if_false]
  unfold Builtin.Frozenset.addrOf
  refine wpAny_bind (wpAny_pure ?_)
  refine wpAny_bind (wpAny_pure ?_)
  dsimp only
  refine wpAny_bind ?_
  rw [List.forIn_cons]
  refine wpAny_bind (wpAny_bind ?_)
  unfold Builtin.Frozenset.differenceUpdate
  have hne : (Value.ref l == Value.ref a) = false := by simpa using Ne.symm hal
  rw [hne]
  simp only [Bool.false_eq_true, if_false]
  refine wpAny_bind (notSet_list (listO_typeIs hl) ?_)
  simp only [Bool.false_eq_true, if_false]
  refine wpAny_bind (iter_list hl fun s1 it e1 hit i1 => ?_)
  have hlt := ha.lt
  have hll := hl.lt
  refine wpAny_bind (wpAny_runValue ?_)
  refine du_loop (A := A.in1) (c := c) (led := led) hh hv h7 hal (by omega) (by omega) _ 0 s1 ks rfl (ha.kp e1 id) (hl.kp e1 id) i1 fun s2 e2 ⟨c2, a2⟩ => ?_
  refine setTidy_ok a2 fun s3 c3 e3 a3 => ?_
  refine wpAny_pure ?_
  show wpAny _ _ (pure PUnit.unit) _ _ _
  refine wpAny_pure (wpAny_pure ⟨_, rfl, hQ s3 c3 ?_ a3⟩)
  exact (kp_new e1 e2 fun b o ho h => by have hb := get_lt ho; rcases h with h | h; exact h; omega).trans e3

theorem entry_isdisjoint : entryFor table "set.isdisjoint" = some Builtin.«frozenset.isdisjoint» :=
  entryFor_alias (id' := "frozenset.isdisjoint") (by kernel_rfl) rfl (by decide +kernel) (by kernel_rfl)

theorem quiet_int {i : Int} {t : Tok} {Q : Bool → Shared → Prop} (hQ : Q true s) : wpAny (model prog w) A (Builtin.Frozenset.quietEq (.int i t)) Q E s := wpAny_pure hQ

end
end Mine
end Lists2Part

section Sets5Part
open PySem PySem.W PyProof.Rows PySem.Calls
namespace Mine
section
variable {prog : Program} {w : World} {A : Around} {E : Value → Shared → Prop} {s : Shared} {a b : Nat} {led c led' c' : Bool} {ks ks' : List Nat}

theorem walkUnseen_ok {o : Obj} {es : Array (Int × Value)} {ep : Nat} {t : SetTable} {Q : List (Int × Value) → Shared → Prop} (g : s.heap.get? a = some o) (hd : o.data = .set es ep t) (x : SetD led c ks es t)
    (hb : At s b (SetO led' c' ks')) (hQ : Q es.toList s) : wpAny (model prog w) A (Builtin.Frozenset.walkUnseen a b) Q E s := by
  obtain ⟨o', g', hex', es', ep', t', hd', x'⟩ := hb
  unfold Builtin.Frozenset.walkUnseen
  refine wpAny_bind (wpAny_setEntries_of g hd x.fits ?_)
  refine wpAny_bind (wpAny_setEntries_of g' hd' x'.fits ?_)
  refine wpAny_bind (wpAny_forIn_list _ (fun l b s' => (∀ e ∈ l, ∃ i tok, e.2 = Value.int i tok) ∧ b = (none, PUnit.unit) ∧ s' = s) _ ?_ ?_ _ _ ⟨?_, rfl, rfl⟩)
  · rintro ⟨h, v⟩ rest b s1 ⟨hl, rfl, rfl⟩
    obtain ⟨i, tok, hv⟩ := hl _ (List.mem_cons_self)
    dsimp only at hv ⊢
    subst hv
    refine wpAny_bind (wpAny_pure ?_)
    simp only [Bool.not_true, Bool.false_eq_true, if_false]
    exact wpAny_pure ⟨fun e he => hl e (List.mem_cons_of_mem _ he), rfl, rfl⟩
  · rintro b s1 ⟨_, rfl, rfl⟩
    exact wpAny_pure hQ
  · intro e he
    rcases List.mem_append.mp he with he | he
    · obtain ⟨k, _, _, _, tok, h⟩ := x.mem he; exact ⟨_, _, h⟩
    · obtain ⟨k, _, _, _, tok, h⟩ := x'.mem he; exact ⟨_, _, h⟩

theorem findIdx_isSome {ks : List Nat} {k : Nat} : (ks.findIdx? (· == k)).isSome = decide (k ∈ ks) := by
  cases hr : ks.findIdx? (· == k) with
  | none =>
    have hk : k ∉ ks := fun e => by
      have := List.findIdx?_eq_none_iff.mp hr k e
      simp at this
    simp [hk]
  | some j =>
    obtain ⟨hlt, hp, _⟩ := List.findIdx?_eq_some_iff_getElem.mp hr
    have hk : k ∈ ks := by
      have : ks[j] = k := by simpa using hp
      exact this ▸ List.getElem_mem hlt
    simp [hk]

theorem unchanged_ok {id : String} {o : Obj} {es : Array (Int × Value)} {ep : Nat} {t : SetTable} {Q : Unit → Shared → Prop} (g : s.heap.get? a = some o) (hd : o.data = .set es ep t) (x : SetD led c ks es t) (hQ : Q () s) :
    wpAny (model prog w) A (Builtin.Frozenset.unchanged id a ep) Q E s := by
  unfold Builtin.Frozenset.unchanged
  refine wpAny_bind (wpAny_setEpoch_of g hd x.fits ?_)
  simp only [bne_self_eq_false, Bool.false_eq_true, if_false]
  exact wpAny_pure hQ

/-- the walk over one set, each asked of the other -/
theorem disj_walk {o : Obj} {es : Array (Int × Value)} {ep : Nat} {t : SetTable} (g : s.heap.get? a = some o) (hd : o.data = .set es ep t) (x : SetD led c ks es t)
    (hb : At s b (SetO led' c' ks')) {Q : Fin → Shared → Prop} (hQ : Q (.done (.ret (.bool (decide (∀ k ∈ ks, k ∉ ks'))))) s) :
    wpAny (model prog w) A (do
      let was ← setEpoch a
      for (h, x) in ← Builtin.Frozenset.walkUnseen a b do
        if (← holding [x] (setFind b x h)).isSome then return ← ret (.bool false)
        Builtin.Frozenset.unchanged "frozenset.isdisjoint" a was
      return ← ret (.bool true)) Q E s := by
  refine wpAny_bind (wpAny_setEpoch_of g hd x.fits ?_)
  refine wpAny_bind (walkUnseen_ok g hd x hb ?_)
  have key : ∀ (l : List (Int × Value)), (∀ e ∈ l, ∃ k : Nat, k ∈ ks ∧ k < 7 ∧ e.1 = k ∧ ∃ tok, e.2 = .int k tok) → (∀ k ∈ ks, (∀ e ∈ l, e.1 ≠ (k : Int)) → k ∉ ks') →
      wpAny (model prog w) A (forIn l (none, PUnit.unit) fun (x : Int × Value) (r : Option Fin × PUnit) => do
        let __do_lift ← holding [x.2] (setFind b x.2 x.1)
        if __do_lift.isSome = true then do
          let v ← ret (.bool false)
          pure (ForInStep.done (some v, PUnit.unit))
        else do
          Builtin.Frozenset.unchanged "frozenset.isdisjoint" a ep
          pure (ForInStep.yield (none, PUnit.unit))) (fun r s' => s' = s ∧ (match r.1 with | none => ∀ k ∈ ks, k ∉ ks' | some v => v = .done (.ret (.bool false)) ∧ ¬ ∀ k ∈ ks, k ∉ ks')) E s := by
    intro l
    induction l with
    | nil => intro _ h; rw [List.forIn_nil]; exact wpAny_pure ⟨rfl, fun k hk => h k hk fun e he => by cases he⟩
    | cons e r ih =>
      intro h1 h2
      obtain ⟨k, hk, h7, e1, tok, e2⟩ := h1 e List.mem_cons_self
      rw [List.forIn_cons]
      refine wpAny_bind ?_
      refine wpAny_bind (wpAny_holding ?_)
      rw [e1, e2]
      refine setFind_ok hb h7 ?_
      rw [findIdx_isSome]
      by_cases hin : k ∈ ks'
      · simp only [hin, decide_true, if_true]
        refine wpAny_bind (wpAny_pure (wpAny_pure ?_))
        exact wpAny_pure ⟨rfl, rfl, fun h => h k hk hin⟩
      · simp only [hin, decide_false, Bool.false_eq_true, if_false]
        refine wpAny_bind (unchanged_ok g hd x (wpAny_pure ?_))
        refine ih (fun e he => h1 e (List.mem_cons_of_mem _ he)) fun k' hk' hno => ?_
        by_cases hkk : k' = k
        · subst hkk; exact hin
        · refine h2 k' hk' fun e' he' => ?_
          rcases List.mem_cons.mp he' with rfl | he'
          · rw [e1]; omega
          · exact hno e' he'
  refine wpAny_bind (wpAny_mono (key es.toList (fun e he => x.mem he) fun k hk hno => ?_) (fun r s1 hr => ?_) fun _ _ h => h)
  · exfalso
    have : (k : Int) ∈ es.toList.map (·.1) := by rw [x.vals]; exact List.mem_map.mpr ⟨k, hk, rfl⟩
    obtain ⟨e, he, h⟩ := List.mem_map.mp this
    exact hno e he h
  · obtain ⟨rfl, h⟩ := hr
    obtain ⟨r1, r2⟩ := r
    cases r1 with
    | none =>
      have h' : ∀ k ∈ ks, k ∉ ks' := h
      refine wpAny_pure ?_
      rw [decide_eq_true h'] at hQ
      exact hQ
    | some v =>
      obtain ⟨rfl, h'⟩ := h
      refine wpAny_pure ?_
      rw [decide_eq_false h'] at hQ
      exact hQ

theorem disj_comm {ks ks' : List Nat} : decide (∀ k ∈ ks, k ∉ ks') = decide (∀ k ∈ ks', k ∉ ks) := by
  apply decide_eq_decide.mpr
  exact ⟨fun h k hk hn => h k hn hk, fun h k hk hn => h k hn hk⟩

theorem call_isdisjoint (ha : At s a (SetO led c ks)) (hb : At s b (SetO led' c' ks')) (hab : a ≠ b) {Q : Value → Shared → Prop} (hQ : Q (.bool (decide (∀ k ∈ ks, k ∉ ks'))) s) :
    wpAny (model prog w) A (call (.builtin "set.isdisjoint") [.ref a, .ref b]) Q E s := by
  refine wpAny_call_entry F.slot_set_isdisjoint (setO_typeIs ha) entry_isdisjoint ?_ (F.args_set_isdisjoint_2 _ _)
  have hTb := setO_typeIs hb
  obtain ⟨o, g, hex, es, ep, t, hd, x⟩ := id ha
  obtain ⟨o', g', hex', es', ep', t', hd', x'⟩ := id hb
  unfold Builtin.«frozenset.isdisjoint» Builtin.Frozenset.oneOther Builtin.Frozenset.sizeOf
  simp only [List.isEmpty_nil, bind_assoc]
  unfold Builtin.Frozenset.addrOf
  refine wpAny_bind (wpAny_pure ?_)
  refine wpAny_bind (wpAny_pure ?_)
  have hne : (Value.ref b == Value.ref a) = false := by simpa using Ne.symm hab
  dsimp only
  rw [hne]
  simp only [Bool.false_eq_true, if_false]
  refine wpAny_bind (wpAny_typeOf hTb ?_)
  have ht : (Value.type "set" == Value.type "set" || Value.type "set" == Value.type "frozenset") = true := by decide
  rw [ht]
  simp only [if_true]
  refine wpAny_bind (wpAny_pure ?_)
  refine wpAny_bind (wpAny_setEntries_of g' hd' x'.fits ?_)
  refine wpAny_bind (wpAny_pure ?_)
  refine wpAny_bind (wpAny_setEntries_of g hd x.fits ?_)
  refine wpAny_bind (wpAny_pure ?_)
  split
  · exact disj_walk g hd x hb ⟨_, rfl, hQ⟩
  · exact disj_walk g' hd' x' ha ⟨_, rfl, by rw [disj_comm]; exact hQ⟩
end
end Mine
end Sets5Part

section Sets6Part
open PySem PySem.W PyProof.Rows PySem.Calls
namespace Mine
section
variable {prog : Program} {w : World} {A : Around} {E : Value → Shared → Prop} {s : Shared} {a b l : Nat} {led c led' c' : Bool} {ks ks' : List Nat} {vs : List Value}

theorem noBool_set : typeLookup (.type "set") "__bool__" = pure none := by rw [typeLookup_type, builtinLookup_eq_fast]; kernel_rfl

theorem truthy_set (ha : At s a (SetO led c ks)) {Q : Bool → Shared → Prop} (hQ : ∀ s', Kp No No s s' → Q (!ks.isEmpty) s') : wpAny (model prog w) A (truthy (.ref a)) Q E s := by
  have hT := setO_typeIs ha
  obtain ⟨o, g, hex, es, ep, t, hd, x⟩ := ha
  have hsz := x.size
  have h7 := x.fill
  have key : wpAny (model prog w) A (runValue (.builtin "len" ⟨[.ref a], []⟩)) (fun r s' => (∃ tk, r = .int es.size tk) ∧ Q (!ks.isEmpty) s') E s := by
    refine wpAny_runValue (codeAny_builtin entry_len ?_)
    rw [Around.under_plainId plain_len _]
    exact wpAny_mono (wpAny_len_body_set (Q := fun r s' => (∃ tk, r = .int es.size tk) ∧ Q (!ks.isEmpty) s') g hex hd x.fits (by omega) ⟨⟨_, rfl⟩, hQ _ Kp.toks⟩)
      (fun fin s' h' => by obtain ⟨r, rfl, hq⟩ := h'; exact hq) fun _ _ e => e
  unfold truthy
  first
    | refine wpAny_bind (wpAny_callSpecial?_none (name := Str.ofString "__bool__") hT noBool_set ?_)
    | refine wpAny_bind (wpAny_pure (wpAny_bind (wpAny_callSpecial?_none (name := Str.ofString "__bool__") hT noBool_set ?_)))
  first
    | refine wpAny_bind (wpAny_specialOf (name := Str.ofString "__len__") hT F.slot_set_len.lookup ?_)
    | refine wpAny_bind (wpAny_pure (wpAny_bind (wpAny_specialOf (name := Str.ofString "__len__") hT F.slot_set_len.lookup ?_)))
  refine wpAny_bind (wpAny_mono key (fun r s' h' => ?_) fun _ _ e => e)
  obtain ⟨⟨tk, rfl⟩, hq⟩ := h'
  refine wpAny_pure ?_
  have : ((es.size : Int) != 0) = !ks.isEmpty := by
    rw [hsz]
    cases ks with
    | nil => rfl
    | cons x t => simp only [List.length_cons, List.isEmpty_cons, Bool.not_false, bne_iff_ne, ne_eq]; omega
  rw [this]; exact hq

theorem truthy_listO (hl : At s l (ListO vs)) (hfit : vs.length < 2 ^ 60) {Q : Bool → Shared → Prop} (hQ : ∀ s', Kp No No s s' → Q (!vs.isEmpty) s') : wpAny (model prog w) A (truthy (.ref l)) Q E s := by
  refine wpAny_truthy_list (listO_isList hl) (by simp; omega) ?_
  have : vs.toArray.isEmpty = vs.isEmpty := by simp
  rw [this]
  exact hQ _ Kp.toks

theorem inS_nat {k : Nat} : inS ks (k : Int) = decide (k ∈ ks) := by
  rw [Bool.eq_iff_iff, inS_iff, decide_eq_true_eq]
  constructor
  · rintro ⟨n, hn, e⟩
    have : n = k := by omega
    exact this ▸ hn
  · exact fun h => ⟨k, h, rfl⟩

theorem in_set {k : Nat} {tok : Tok} (ha : At s a (SetO led c ks)) {Q : Value → Shared → Prop} (hQ : ∀ s', Kp No No s s' → Q (.bool (decide (k ∈ ks))) s') :
    wpAny (model prog w) A (compareOp .In (.int k tok) (.ref a)) Q E s := by
  refine wpAny_inSet_of (knd := intKind prog w) (k := (k : Int)) (intKind_is _ _ _ _) rfl (SetO.setOf ha) ?_
  rw [inS_nat]
  exact hQ _ Kp.toks

theorem su_loop {ns : List Nat} {it : Nat} {R : Result → Shared → Prop} (hh : A.in1.handled = none) (hv : NatsAre vs ns) (h7 : ∀ k ∈ ns, k < 7) (hal : a ≠ l) (hai : a ≠ it) (hil : it ≠ l) :
    ∀ (k i : Nat) (s : Shared) (ks : List Nat), ns.length - i = k → At s a (SetO led true ks) → At s l (ListO vs) → At s it (IterO l i) →
      (∀ s' ks', Kp (fun b => b = a ∨ b = it) No s s' → At s' a (SetO led true ks') → (∀ x, x ∈ ks' ↔ x ∈ ks ∨ x ∈ ns.drop i) → R (.ok (.ret .none)) s') →
      codeAny (model prog w) A (.builtin "set.update.loop" ⟨[.ref a, .ref it], []⟩) R s := by
  intro k
  induction k with
  | zero =>
    intro i s ks hk ha hl hi hR
    refine codeAny_builtin F.entry_set_update_loop ?_
    rw [Around.under_plainId F.plain_set_update_loop _]
    show wpAny _ A.in1 (pyNext (.ref it) >>= _) _ _ s
    refine wpAny_bind (next_end hh hi hl (by rw [List.getElem?_eq_none]; rw [hv.length]; omega) fun s' e => ?_)
    show wpAny _ A.in1 (ret Value.none) _ _ s'
    refine wpAny_pure (hR s' ks (e.mono (fun b _ _ h => .inr h) fun _ _ h => h) (ha.kp e hai) fun x => ?_)
    have hd : ns.drop i = [] := List.drop_eq_nil_of_le (by omega)
    simp [hd]
  | succ k ih =>
    intro i s ks hk ha hl hi hR
    have hlt : i < ns.length := by omega
    obtain ⟨t, ht⟩ := hv.get (List.getElem?_eq_getElem hlt)
    have hx7 : ns[i] < 7 := h7 _ (List.getElem_mem hlt)
    refine codeAny_builtin F.entry_set_update_loop ?_
    rw [Around.under_plainId F.plain_set_update_loop _]
    show wpAny _ A.in1 (pyNext (.ref it) >>= _) _ _ s
    refine wpAny_bind (next_item hi hl ht fun s1 e1 i1 => ?_)
    show wpAny _ A.in1 (holding [Value.int (ns[i] : Int) t] (setAdd a (.int (ns[i] : Int) t)) >>= _) _ _ s1
    refine wpAny_bind (wpAny_holding (setAdd_ok (ha.kp e1 hai) hx7 fun s2 e2 a2 => ?_))
    refine wpAny_pure ⟨plainId_quiet F.plain_set_update_loop _, ?_⟩
    refine ih (i + 1) s2 _ (by omega) a2 ((hl.kp e1 (Ne.symm hil)).kp e2 (Ne.symm hal)) (i1.kp e2 (Ne.symm hai)) fun s3 ks3 e3 a3 hm => ?_
    refine hR s3 ks3 (((e1.mono (fun b _ _ h => .inr h) fun _ _ h => h).trans (e2.mono (fun b _ _ h => .inl h) fun _ _ h => h)).trans e3) a3 fun x => ?_
    rw [hm x, List.drop_eq_getElem_cons hlt, List.mem_cons]
    by_cases h : ns[i] ∈ ks
    · rw [if_pos h]
      constructor
      · rintro (h' | h')
        · exact .inl h'
        · exact .inr (.inr h')
      · rintro (h' | rfl | h')
        · exact .inl h'
        · exact .inl h
        · exact .inr h'
    · rw [if_neg h, mem_ins]
      constructor
      · rintro ((rfl | h') | h')
        · exact .inr (.inl rfl)
        · exact .inl h'
        · exact .inr (.inr h')
      · rintro (h' | rfl | h')
        · exact .inl (.inr h')
        · exact .inl (.inl rfl)
        · exact .inr h'

theorem call_set_list_ok {ns : List Nat} (hh : A.handled = none) (hl : At s l (NatsO ns)) (h7 : ∀ k ∈ ns, k < 7) {Q : Value → Shared → Prop}
    (hQ : ∀ s' a ks, Kp No No s s' → s.heap.objs.size ≤ a → At s' a (SetO (ledOf w) true ks) → (∀ x, x ∈ ks ↔ x ∈ ns) → Q (.ref a) s') :
    wpAny (model prog w) A (call (.type "set") [.ref l]) Q E s := by
  obtain ⟨vs, hl, hv⟩ := natsO_list hl
  refine call_set_with (F.typeCall_set_1 _) (F.newCall_set_1 _) fun s₁ hs => ?_
  have hT : s₁.TypeIs (.ref s.heap.objs.size) "set" := by subst hs; exact ⟨_, Heap.get?_push_size _ rfl, rfl⟩
  have hA : At s₁ s.heap.objs.size (SetO (ledOf w) true []) := by
    subst hs; exact At.push rfl ⟨⟨rfl, rfl, rfl⟩, #[], 0, _, rfl, SetD.empty _⟩
  have hK : Kp No No s s₁ := by subst hs; exact Kp.push (tk := s.toks)
  have hll := hl.lt
  have hl1 := hl.kp hK id
  have hT1 := listO_typeIs hl1
  refine codeAny_call_builtin F.called_set.init.plain F.entry_set_init (check_set_init_1 hT ?_)
  unfold Builtin.«set.__init__» noKeywords Builtin.Frozenset.updateFrom
  generalize hal : s.heap.objs.size = a at *
  obtain ⟨o, g, hex, es, ep, t, hd, x⟩ := id hA
  obtain ⟨ol, gl, hcl, hdl, nl, hdatl⟩ := id hl1
  obtain ⟨cls, dict, data, slots⟩ := o
  obtain ⟨rfl, rfl, rfl⟩ : cls = .type "set" ∧ dict = none ∧ slots = #[] := hex
  have hd' : data = .set es ep t := hd
  subst hd'
  obtain ⟨lcls, ldict, ldata, lslots⟩ := ol
  have hcl' : lcls = .type "list" := hcl
  subst hcl'
  have hsls := F.sub_list_set
  have hslf := F.sub_list_frozenset
  have hne : (Value.type "list" == Value.type "dict") = false := by decide
  have hfit := x.fits
  have hfill : (t.fill != 0) = false := by
    have h1 := x.fill
    have h2 := x.clean rfl
    have h3 : t.place.size = 0 := by rw [← Array.length_toList, x.place]; rfl
    simp [SetTable.fill, h2, h3]
  have hc : (t.place.size != es.size || decide (t.fill > t.mask)) = false := by
    simp only [SetTable.fits, Bool.and_eq_true, beq_iff_eq, decide_eq_true_eq] at hfit
    simp [hfit.1, Nat.not_lt.mpr hfit.2]
  generalize hPI : pyIter = PI
  obtain ⟨hp, gg, d, tk, os⟩ := s₁
  wp_walk
  subst hPI
  have hap := hA.lt
  have hlp := hl1.lt
  refine iter_list hl1 fun s1 it e1 hit i1 => ?_
  refine wpAny_bind (wpAny_runValue ?_)
  refine su_loop (A := A.in1.in1) (led := ledOf w) hh hv h7 (by omega) (by omega) (by omega) _ 0 s1 [] rfl (hA.kp e1 id) (hl1.kp e1 id) i1 fun s2 ks2 e2 a2 hm => ?_
  refine wpAny_pure (wpAny_pure ⟨rfl, hQ s2 a ks2 ?_ (by omega) a2 fun x => ?_⟩)
  · refine kp_new hK (kp_new e1 e2 (P' := fun b => b = a) fun b o ho h => ?_) fun b o ho h => ?_
    · have hb := get_lt ho
      rcases h with h | h
      · exact h
      · omega
    · have hb := get_lt ho
      omega
  · rw [hm x]; simp
end
end Mine
end Sets6Part

section DD0Part
open PySem PySem.W PyProof.Rows PySem.Calls
namespace Mine
theorem mro_dd : mroOf (.type "collections.defaultdict") = pure [.type "collections.defaultdict", .type "dict", .type "object"] := by rw [mroOf_type]; kernel_rfl
theorem lookup_dd_new : typeLookup (.type "collections.defaultdict") "__new__" = pure (some (.builtin "dict.__new__")) := by rw [typeLookup_type, builtinLookup_eq_fast]; kernel_rfl
theorem slot_dd_init : Slot "collections.defaultdict" "__init__" "collections.defaultdict.__init__" :=
  .of (owner := "collections.defaultdict") (n := "__init__") (by rw [typeLookup_type, builtinLookup_eq_fast]; kernel_rfl) (by decide +kernel) (by decide +kernel) (by decide +kernel)
    (by first | exact .inl (by decide +kernel) | exact .inr (by decide +kernel)) (by rw [isSubtype_type]; kernel_rfl)
theorem slot_dd_getitem : Slot "collections.defaultdict" "__getitem__" "dict.__getitem__" :=
  .of (owner := "dict") (n := "__getitem__") (by rw [typeLookup_type, builtinLookup_eq_fast]; kernel_rfl) (by decide +kernel) (by decide +kernel) (by decide +kernel)
    (by first | exact .inl (by decide +kernel) | exact .inr (by decide +kernel)) (by rw [isSubtype_type]; kernel_rfl)
theorem slot_dd_missing : Slot "collections.defaultdict" "__missing__" "collections.defaultdict.__missing__" :=
  .of (owner := "collections.defaultdict") (n := "__missing__") (by rw [typeLookup_type, builtinLookup_eq_fast]; kernel_rfl) (by decide +kernel) (by decide +kernel) (by decide +kernel)
    (by first | exact .inl (by decide +kernel) | exact .inr (by decide +kernel)) (by rw [isSubtype_type]; kernel_rfl)
theorem called_dd : TypeCalled "collections.defaultdict" "dict.__new__" "collections.defaultdict.__init__" :=
  ⟨by decide +kernel, by decide +kernel, ⟨_, _, mro_dd⟩, madeBy_type mro_dd lookup_dd_new (by decide +kernel), by decide +kernel, by rw [isSubtype_type]; kernel_rfl, slot_dd_init⟩
theorem typeCall_dd : checkTypeCall "collections.defaultdict" ⟨[.type "set"], []⟩ = pure () := by kernel_rfl
theorem newCall_dd : checkBuiltinCall "dict.__new__" ⟨[.type "collections.defaultdict", .type "set"], []⟩ = pure () := by kernel_rfl
theorem sub_dd_dict : isSubtype (.type "collections.defaultdict") (.type "dict") = pure true := by rw [isSubtype_type]; kernel_rfl
theorem entry_dict_new : entryFor table "dict.__new__" = some Builtin.«dict.__new__» := entryFor_of_tree (by kernel_rfl)
theorem entry_dd_init : entryFor table "collections.defaultdict.__init__" = some Builtin.«collections.defaultdict.__init__» := entryFor_of_tree (by kernel_rfl)
theorem entry_dd_missing : entryFor table "collections.defaultdict.__missing__" = some Builtin.«collections.defaultdict.__missing__» := entryFor_of_tree (by kernel_rfl)
theorem plain_dict_new : plainId "dict.__new__" = true := by decide +kernel
end Mine
end DD0Part

section DDPart
open PySem PySem.W PyProof.Rows PySem.Calls
namespace Mine
section
variable {prog : Program} {w : World} {A : Around} {E : Value → Shared → Prop} {s : Shared} {a b l : Nat} {led c led' c' : Bool} {ks ks' : List Nat} {vs : List Value}

/-- a defaultdict(set): the keys with the sets' addresses -/
structure EntsAre (es : Array DictEntry) (tb : List (Nat × Nat)) : Prop where
  len : es.size = tb.length
  at_ : ∀ i (h : i < tb.length), ∃ e, es[i]? = some e ∧ e.hash = (tb[i].1 : Int) ∧ (∃ t, e.key = .int tb[i].1 t) ∧ e.val = .ref tb[i].2

def DDO (tb : List (Nat × Nat)) (o : Obj) : Prop :=
  o.cls = .type "collections.defaultdict" ∧ o.dict = none ∧ o.slots = #[some (.type "set")] ∧ ∃ es ep, o.data = .dict es ep ∧ EntsAre es tb

theorem wpAny_callBorrowed {f : Value} {pos : List Value} {Q : Value → Shared → Prop}
    (hc : codeAny (model prog w) A (.call f ⟨pos, []⟩) (fun r s' => match r with | .ok (.ret v) => Q v s' | .ok _ => False | .error e => E e s') s) :
    wpAny (model prog w) A (callBorrowed f pos) Q E s := fun Γ p hΓ => by
  show Sem.wp _ Γ (.call (.call f ⟨pos, []⟩) none false [borrowed] _) _ _ p s
  rw [Sem.wp_call]
  refine wpCode_mono (fun r s' h => ?_) (hc (Γ.enter (.call f ⟨pos, []⟩) none p) p rfl (hΓ.enter _ none p (by intro x; cases x)))
  cases r with
  | error e => exact h
  | ok fl => cases fl with
    | ret v => exact h
    | _ => exact h.elim


theorem args_dd_init (a b : Value) : argsOk "collections.defaultdict.__init__" ⟨[a, b], []⟩ := by unfold argsOk; kernel_rfl
theorem ty_set : typeOf (.type "set") = pure (.type "type") := by kernel_rfl
theorem look_type_call : typeLookup (.type "type") "__call__" = pure (some (.builtin "type.__call__")) := by rw [typeLookup_type, builtinLookup_eq_fast]; kernel_rfl
theorem sub_dd_ordered : isSubtype (.type "collections.defaultdict") (.type "collections.OrderedDict") = pure false := by rw [isSubtype_type]; kernel_rfl

theorem notOrdered_dd {name : String} {args : Args} {Q : Unit → Shared → Prop} (hT : s.TypeIs (args.pos.headD .none) "collections.defaultdict") (h : Q () s) :
    wpAny (model prog w) A (Builtin.Dict.notOrdered name args) Q E s := by
  unfold Builtin.Dict.notOrdered
  split
  · refine wpAny_bind (wpAny_typeOf hT ?_)
    show wpAny _ _ (if (Value.type "collections.defaultdict" != Value.type "dict") = true then _ else _) _ _ s
    rw [if_pos (by decide)]
    refine wpAny_bind (wpAny_isInstance hT sub_dd_ordered ?_)
    exact wpAny_pure h
  · exact wpAny_pure h

theorem ddO_typeIs {tb} (h : At s a (DDO tb)) : s.TypeIs (.ref a) "collections.defaultdict" := let ⟨o, g, hc, _⟩ := h; ⟨o, g, hc⟩

theorem dd_new_code {Q₁ : Value → Shared → Prop} (h : Q₁ (.ref s.heap.objs.size) { s with heap := s.heap.push { cls := .type "collections.defaultdict", data := .dict #[] } }) :
    codeAny (model prog w) A (.call (.builtin "dict.__new__") ⟨[.type "collections.defaultdict", .type "set"], []⟩) (wants Q₁ E) s := by
  refine codeAny_of_tree ?_
  show wpAny _ A.in1 (do checkBuiltinCall "dict.__new__" ⟨[.type "collections.defaultdict", .type "set"], []⟩; again (.builtin "dict.__new__" ⟨[.type "collections.defaultdict", .type "set"], []⟩)) _ _ s
  refine wpAny_bind (wpAny_of_eq newCall_dd (wpAny_pure ⟨plainId_quiet plain_dict_new _, codeAny_builtin entry_dict_new ?_⟩))
  rw [Around.under_plainId plain_dict_new _]
  unfold Builtin.«dict.__new__»
  have hsub := sub_dd_dict
  have hmro := mro_dd
  obtain ⟨hp, g, d, tk, os⟩ := s
  dsimp only
  wp_walk
  exact h

set_option maxHeartbeats 1000000 in
theorem call_dd {Q : Value → Shared → Prop} (h : ∀ s' a, Kp No No s s' → s.heap.objs.size ≤ a → At s' a (DDO []) → Q (.ref a) s') :
    wpAny (model prog w) A (call (.type "collections.defaultdict") [.type "set"]) Q E s := by
  refine callType_codes (Q₁ := fun obj s₁ => obj = .ref s.heap.objs.size ∧ s₁ = { s with heap := s.heap.push { cls := .type "collections.defaultdict", data := .dict #[] } }) called_dd typeCall_dd entry_dd_init
    (dd_new_code ⟨rfl, rfl⟩) fun obj s₁ h₁ => ?_
  obtain ⟨rfl, hs⟩ := h₁
  have hg : s₁.heap.get? s.heap.objs.size = some { cls := .type "collections.defaultdict", data := .dict #[] } := by subst hs; exact Heap.get?_push_size _ rfl
  have hT : s₁.TypeIs (.ref s.heap.objs.size) "collections.defaultdict" := ⟨_, hg, rfl⟩
  have hK : Kp No No s s₁ := by subst hs; exact Kp.push (tk := s.toks)
  refine ⟨hT, args_dd_init _ _, ?_⟩
  have hQ : ∀ s', Kp No No s s' → At s' s.heap.objs.size (DDO []) → Q (.ref s.heap.objs.size) s' := fun s' k a => h s' _ k (Nat.le_refl _) a
  clear h hs
  have hlt := Heap.lt_size hg
  generalize hal : s.heap.objs.size = a at *
  unfold Builtin.«collections.defaultdict.__init__» Builtin.Collections_defaultdict.setFactory slotLetsGo
  have hts := ty_set
  have hlc := look_type_call
  obtain ⟨hp, gg, d, tk, os⟩ := s₁
  wp_walk
  refine codeAny_builtin F.entry_dict_init ?_
  rw [Around.under_plainId (by decide +kernel) _]
  show wpAny _ _ (Builtin.«dict.__init__» ⟨[.ref a], []⟩) _ _ _
  unfold Builtin.«dict.__init__» Builtin.Dict.selfAndRest
  have hg' : (hp.update a fun o => { cls := o.cls, dict := o.dict, data := o.data, slots := (o.slots ++ Array.replicate (0 + 1 - o.slots.size) none).setIfInBounds 0 [Value.type "set"].head? }).get? a
      = some { cls := .type "collections.defaultdict", data := .dict #[], slots := #[some (.type "set")] } := by
    have := Heap.get?_update_self (fun o : Obj => { cls := o.cls, dict := o.dict, data := o.data, slots := (o.slots ++ Array.replicate (0 + 1 - o.slots.size) none).setIfInBounds 0 [Value.type "set"].head? }) hg rfl
    exact this
  refine wpAny_bind (wpAny_bind (notOrdered_dd ⟨_, hg', rfl⟩ ?_))
  refine wpAny_bind (wpAny_pure (wpAny_pure ?_))
  unfold Builtin.Dict.updateCommon Builtin.Dict.addKeywords
  dsimp only
  refine wpAny_bind (wpAny_pure (wpAny_pure ?_))
  refine wpAny_pure ⟨rfl, hQ _ ?_ ?_⟩
  · exact kp_new hK (Kp.same (tk := tk) (Heap.SameBut.update hp a _)) fun b o ho h => by have hb := get_lt ho; omega
  · exact ⟨_, hg', rfl, rfl, rfl, #[], 0, rfl, ⟨rfl, fun i h => by simp at h⟩⟩
end
end Mine
end DDPart

section DD2Part
open PySem PySem.W PyProof.Rows PySem.Calls
namespace Mine
section
variable {prog : Program} {w : World} {A : Around} {E : Value → Shared → Prop} {s : Shared} {a b l : Nat} {led c led' c' : Bool} {ks ks' : List Nat} {vs : List Value} {tb : List (Nat × Nat)}

theorem args_dd_missing (a b : Value) : argsOk "collections.defaultdict.__missing__" ⟨[a, b], []⟩ := by unfold argsOk; kernel_rfl
def Small (tb : List (Nat × Nat)) : Prop := ∀ p ∈ tb, p.1 < 7

theorem EntsAre.at' {es : Array DictEntry} (x : EntsAre es tb) {i : Nat} {e : DictEntry} (h : es[i]? = some e) : ∃ (hi : i < tb.length), e.hash = (tb[i].1 : Int) ∧ (∃ t, e.key = .int tb[i].1 t) ∧ e.val = .ref tb[i].2 := by
  have hi : i < tb.length := by rw [← x.len]; exact (Array.getElem?_eq_some_iff.mp h).1
  obtain ⟨e', h', r⟩ := x.at_ i hi
  rw [h] at h'; cases h'
  exact ⟨hi, r⟩

theorem EntsAre.intKeys {es : Array DictEntry} (x : EntsAre es tb) (h7 : Small tb) : IntKeys es := by
  intro e he
  obtain ⟨i, hi, rfl⟩ := Array.mem_iff_getElem.mp he
  obtain ⟨hl, h1, ⟨t, h2⟩, _⟩ := x.at' (Array.getElem?_eq_getElem hi)
  refine ⟨_, t, h2, ?_⟩
  rw [h1]
  exact (hash_small _ (h7 _ (List.getElem_mem hl))).symm

theorem EntsAre.find {es : Array DictEntry} (x : EntsAre es tb) (k : Nat) : es.findIdx? (fun e => Value.isInt (k : Int) e.key) = tb.findIdx? (fun p => p.1 == k) := by
  have hp : ∀ i (hi : i < tb.length) (e : DictEntry), es[i]? = some e → Value.isInt (k : Int) e.key = (tb[i].1 == k) := by
    intro i hi e he
    obtain ⟨_, _, ⟨t, h2⟩, _⟩ := x.at' he
    rw [h2]
    show ((tb[i].1 : Int) == (k : Int)) = (tb[i].1 == k)
    rw [Bool.eq_iff_iff, beq_iff_eq, beq_iff_eq]
    omega
  cases hr : tb.findIdx? (fun p => p.1 == k) with
  | none =>
    rw [Array.findIdx?_eq_none_iff]
    intro e he
    obtain ⟨i, hi, rfl⟩ := Array.mem_iff_getElem.mp he
    have hl : i < tb.length := by rw [← x.len]; exact hi
    rw [hp i hl _ (Array.getElem?_eq_getElem hi)]
    exact List.findIdx?_eq_none_iff.mp hr _ (List.getElem_mem hl)
  | some j =>
    obtain ⟨hj, h1, h2⟩ := List.findIdx?_eq_some_iff_getElem.mp hr
    have hje : j < es.size := by rw [x.len]; exact hj
    rw [Array.findIdx?_eq_some_iff_getElem]
    refine ⟨hje, ?_, fun i hi => ?_⟩
    · rw [hp j hj _ (Array.getElem?_eq_getElem hje)]; exact h1
    · have hl : i < tb.length := by omega
      rw [hp i hl _ (Array.getElem?_eq_getElem (by rw [x.len]; exact hl))]
      have := h2 i hi
      simpa using this

theorem EntsAre.push {es : Array DictEntry} (x : EntsAre es tb) (k v : Nat) (t : Tok) : EntsAre (es.push ⟨(k : Int), .int k t, .ref v⟩) (tb ++ [(k, v)]) := by
  refine ⟨by simp [x.len], fun i hi => ?_⟩
  by_cases h : i < tb.length
  · obtain ⟨e, h1, h2, h3, h4⟩ := x.at_ i h
    refine ⟨e, ?_, ?_, ?_, ?_⟩
    · rw [Array.getElem?_push, if_neg (by rw [x.len]; omega)]; exact h1
    · rw [List.getElem_append_left h]; exact h2
    · rw [List.getElem_append_left h]; exact h3
    · rw [List.getElem_append_left h]; exact h4
  · have hi' : i = tb.length := by simp at hi; omega
    subst hi'
    refine ⟨⟨(k : Int), .int k t, .ref v⟩, ?_, ?_, ?_, ?_⟩
    · rw [Array.getElem?_push, if_pos x.len.symm]
    · simp
    · exact ⟨t, by simp⟩
    · simp

theorem dd_find {k : Nat} {t : Tok} {o : Obj} {es : Array DictEntry} {ep : Nat} {Q : Option Nat → Shared → Prop} (g : s.heap.get? a = some o) (hd : o.data = .dict es ep) (x : EntsAre es tb) (hs : Small tb) (h7 : k < 7)
    (hQ : Q (tb.findIdx? fun p => p.1 == k) s) : wpAny (model prog w) A (dictFind a (.int k t) k) Q E s := by
  have := wpAny_dictFind_int (k := (k : Int)) (t := t) (prog := prog) (w := w) (A := A) (E := E) (Q := Q) g hd (x.intKeys hs) (by rw [x.find]; exact hQ)
  rw [hash_small k h7] at this
  exact this

theorem find_in {k v : Nat} (hnd : (tb.map (·.1)).Nodup) (hm : (k, v) ∈ tb) : ∃ i, tb.findIdx? (fun p => p.1 == k) = some i ∧ tb[i]? = some (k, v) := by
  cases hr : tb.findIdx? (fun p => p.1 == k) with
  | none => have := List.findIdx?_eq_none_iff.mp hr _ hm; simp at this
  | some i =>
    refine ⟨i, rfl, ?_⟩
    obtain ⟨hi, hp, _⟩ := List.findIdx?_eq_some_iff_getElem.mp hr
    obtain ⟨j, hj, e⟩ := List.getElem_of_mem hm
    have hk : tb[i].1 = k := by simpa using hp
    have : i = j := by
      have h1 : (tb.map (·.1))[i]'(by simpa using hi) = (tb.map (·.1))[j]'(by simpa using hj) := by simp [hk, e]
      exact (List.getElem_inj hnd).mp h1
    subst this
    rw [List.getElem?_eq_getElem hi, e]

/-- an entry that stands -/
theorem dd_item {k v : Nat} {t : Tok} {Q : Value → Shared → Prop} (ha : At s a (DDO tb)) (hs : Small tb) (hnd : (tb.map (·.1)).Nodup) (h7 : k < 7) (hm : (k, v) ∈ tb)
    (hQ : ∀ s', Kp No No s s' → Q (.ref v) s') : wpAny (model prog w) A (getItem (.ref a) (.int k t)) Q E s := by
  have hT := ddO_typeIs ha
  obtain ⟨o, g, hc, hdi, hsl, es, ep, hd, x⟩ := ha
  obtain ⟨i, hf, hi⟩ := find_in hnd hm
  unfold getItem
  try with_reducible refine wpAny_holding ?_
  first | refine wpAny_bind (wpAny_pure ?_) | skip
  refine wpAny_bind (wpAny_sequenceKey hT (by decide) ?_)
  refine wpAny_bind (wpAny_callSpecial?_slot (name := Str.ofString "__getitem__") hT slot_dd_getitem
    (wpAny_call_entry slot_dd_getitem hT F.entry_dict_getitem ?_ (F.args_dict_getitem_2 _ _)))
  show wpAny _ _ (dictGet a (.int k t) >>= _) _ _ s
  refine wpAny_bind ?_
  unfold dictGet
  try with_reducible refine wpAny_holding ?_
  refine wpAny_bind (pyHash_ok h7 fun s1 e1 => ?_)
  have g1 := e1.keep a o id g
  refine wpAny_bind (dd_find g1 hd x hs h7 ?_)
  rw [hf]
  refine wpAny_bind (wpAny_dictEntries g1 hd (wpAny_pure ?_))
  obtain ⟨hlt, hv⟩ := List.getElem?_eq_some_iff.mp hi
  obtain ⟨e, h1, _, _, h4⟩ := x.at_ i hlt
  rw [h1, Option.map_some, h4]
  rw [hv]
  exact wpAny_pure ⟨_, rfl, wpAny_pure (hQ s1 e1)⟩

theorem find_out {k : Nat} (hm : ∀ p ∈ tb, p.1 ≠ k) : tb.findIdx? (fun p => p.1 == k) = none := by
  rw [List.findIdx?_eq_none_iff]
  intro p hp
  simpa using hm p hp

/-- an entry that is missed: an empty set is laid in -/
theorem dd_missing {k : Nat} {t : Tok} {Q : Value → Shared → Prop} (ha : At s a (DDO tb)) (hsys : a ≠ sysModules) (hs : Small tb) (hb : tb.length ≤ 100) (h7 : k < 7) (hm : ∀ p ∈ tb, p.1 ≠ k)
    (hQ : ∀ s' v, Kp (· = a) No s s' → Above s v → At s' a (DDO (tb ++ [(k, v)])) → At s' v (SetO (ledOf w) true []) → Q (.ref v) s') : wpAny (model prog w) A (getItem (.ref a) (.int k t)) Q E s := by
  have hT := ddO_typeIs ha
  have hf := find_out hm
  obtain ⟨o, g, hc, hdi, hsl, es, ep, hd, x⟩ := id ha
  unfold getItem
  try with_reducible refine wpAny_holding ?_
  first | refine wpAny_bind (wpAny_pure ?_) | skip
  refine wpAny_bind (wpAny_sequenceKey hT (by decide) ?_)
  refine wpAny_bind (wpAny_callSpecial?_slot (name := Str.ofString "__getitem__") hT slot_dd_getitem
    (wpAny_call_entry slot_dd_getitem hT F.entry_dict_getitem ?_ (F.args_dict_getitem_2 _ _)))
  show wpAny _ _ (dictGet a (.int k t) >>= _) _ _ s
  refine wpAny_bind ?_
  unfold dictGet
  try with_reducible refine wpAny_holding ?_
  refine wpAny_bind (pyHash_ok h7 fun s1 e1 => ?_)
  have g1 := e1.keep a o id g
  refine wpAny_bind (dd_find g1 hd x hs h7 ?_)
  rw [hf]
  refine wpAny_pure ?_
  dsimp only
  refine wpAny_bind (wpAny_missed_int ?_)
  dsimp only
  have hT1 : s1.TypeIs (.ref a) "collections.defaultdict" := ⟨o, g1, hc⟩
  refine wpAny_bind (wpAny_typeOf hT1 ?_)
  have hne : (Value.type "collections.defaultdict" != Value.type "dict") = true := by decide
  rw [hne]
  simp only [if_true]
  refine wpAny_bind ?_
  refine wpAny_callSpecial?_slot (name := Str.ofString "__missing__") hT1 slot_dd_missing ?_
  refine wpAny_call ?_
  refine codeAny_call_builtin slot_dd_missing.plain entry_dd_missing (slot_dd_missing.check _ _ _ _ _ _ _ _ hT1 (args_dd_missing _ _) ?_)
  unfold Builtin.«collections.defaultdict.__missing__» Builtin.Collections_defaultdict.factory? slotAt callOutOfASlot borrowsExactly
  have hne2 : (Value.type "set" != Value.none) = true := by decide
  refine wpAny_bind (wpAny_of_eq (a := (Value.ref a, Value.int (k : Int) t)) rfl ?_)
  dsimp only
  refine wpAny_bind (wpAny_bind (wpAny_bind (wpAny_loadPart g1 ?_)))
  refine wpAny_pure ?_
  rw [hsl]
  refine wpAny_pure ?_
  have hopt : Option.filter (fun x => x != Value.none) (#[some (Value.type "set")][0]?).join = some (.type "set") := by
    show Option.filter (fun x => x != Value.none) (some (Value.type "set")) = _
    rw [Option.filter_some, if_pos hne2]
  rw [hopt]
  dsimp only
  refine wpAny_bind (wpAny_bind (wpAny_pure ?_))
  simp only [if_true]
  refine wpAny_callBorrowed (code_set_empty fun s2 v e2 hv a2 => ?_)
  have hpl : plainId "dict.setdefault" = true := by decide +kernel
  refine wpAny_pure ⟨plainId_quiet hpl _, codeAny_builtin F.entry_dict_setdefault ?_⟩
  rw [Around.under_plainId hpl _]
  have g2 := e2.keep a o id g1
  have hav : a < v := by rw [hv]; exact get_lt g1
  unfold Builtin.«dict.setdefault» Builtin.Dict.keyAndDefault
  refine wpAny_bind (wpAny_bind (notOrdered_dd ⟨o, g2, hc⟩ ?_))
  refine wpAny_bind (wpAny_of_eq (a := ()) rfl ?_)
  refine wpAny_bind (wpAny_of_eq (a := (Value.ref a, [Value.int (k : Int) t, Value.ref v])) rfl ?_)
  refine wpAny_bind (wpAny_pure (wpAny_pure ?_))
  dsimp only
  have hsy : (a == sysModules) = false := by simpa using hsys
  rw [hsy]
  simp only [Bool.false_eq_true, if_false]
  refine wpAny_bind ?_
  unfold dictSetDefault
  refine wpAny_holding (wpAny_bind (pyHash_ok h7 fun s3 e3 => ?_))
  have g3 := e3.keep a o id g2
  refine wpAny_bind (dd_find g3 hd x hs h7 ?_)
  rw [hf]
  refine wpAny_bind (wpAny_rule ?_)
  refine wpAny_bind (wpAny_updateDictKeys g3 hd ?_ (by rw [x.len, sizeLine_eq]; omega) (by simp))
  refine wpAny_pure (wpAny_pure ?_)
  refine wpAny_bind (wpAny_rule (wpAny_pure ⟨_, rfl, ?_⟩))
  have hgu := Heap.get?_update_self (Obj.mapDictKeys fun x => x.push { hash := (k : Int), key := Value.int (k : Int) t, val := (Option.some (Value.ref v)).getD .none }) g3 (by
    obtain ⟨oc, od, odt, osl⟩ := o
    simp only at hd; subst hd; rfl)
  refine wpAny_pure (hQ _ v ?_ ?_ ?_ ?_)
  · exact ((kp_no (e1.trans (e2.trans e3))).trans (Kp.same (tk := s3.toks) (Heap.SameBut.update s3.heap a _)))
  · intro b ob hb
    rw [hv]
    exact get_lt (e1.keep b ob id hb)
  · refine ⟨_, hgu, ?_⟩
    obtain ⟨oc, od, odt, osl⟩ := o
    simp only at hd; subst hd
    exact ⟨hc, hdi, hsl, _, _, rfl, x.push k v t⟩
  · refine (a2.kp e3 id).kp (Kp.same (tk := s3.toks) (D := No) (Heap.SameBut.update s3.heap a _)) ?_
    show v ≠ a
    omega
end
end Mine
end DD2Part

section DD3Part
open PySem PySem.W PyProof.Rows PySem.Calls
namespace Mine

theorem length_of_small {l : List Nat} (h : l.Nodup) (h7 : ∀ x ∈ l, x < 7) : l.length ≤ 7 := by
  have hp : l.Perm ((List.range 7).filter fun x => l.contains x) := by
    rw [List.perm_ext_iff_of_nodup h (List.Pairwise.filter _ List.nodup_range)]
    intro a
    simp only [List.mem_filter, List.mem_range, List.contains_iff_mem]
    exact ⟨fun ha => ⟨h7 a ha, ha⟩, fun ha => ha.2⟩
  have := hp.length_eq
  have h2 := List.length_filter_le (fun x => l.contains x) (List.range 7)
  rw [List.length_range] at h2
  omega

structure DDS (led : Bool) (s : Shared) (e : Nat) (tb kv : List (Nat × Nat)) : Prop where
  obj : At s e (DDO tb)
  small : Small tb
  keys : (tb.map (·.1)).Nodup
  addrs : (tb.map (·.2)).Nodup
  apart : ∀ p ∈ tb, p.2 ≠ e
  sets : ∀ p ∈ tb, ∃ ks, At s p.2 (SetO led true ks) ∧ ∀ x, x ∈ ks ↔ (p.1, x) ∈ kv
  all : ∀ q ∈ kv, ∃ a, (q.1, a) ∈ tb

theorem DDS.len {led s e tb kv} (x : DDS led s e tb kv) : tb.length ≤ 7 := by
  have := length_of_small x.keys (fun k hk => by obtain ⟨p, hp, rfl⟩ := List.mem_map.mp hk; exact x.small p hp)
  simpa using this

theorem DDS.kp {led s s' e tb kv P D} (x : DDS led s e tb kv) (k : Kp P D s s') (he : ¬ P e) (hs : ∀ p ∈ tb, ¬ P p.2) : DDS led s' e tb kv :=
  ⟨x.obj.kp k he, x.small, x.keys, x.addrs, x.apart, fun p hp => let ⟨ks, h1, h2⟩ := x.sets p hp; ⟨ks, h1.kp k (hs p hp), h2⟩, x.all⟩

theorem DDS.lt {led s e tb kv} (x : DDS led s e tb kv) {p} (hp : p ∈ tb) : p.2 < s.heap.objs.size := let ⟨_, h, _⟩ := x.sets p hp; h.lt

section
variable {prog : Program} {w : World} {A : Around} {E : Value → Shared → Prop} {s : Shared} {a b l e : Nat} {tb kv : List (Nat × Nat)}

theorem DDS.empty {s : Shared} (h : At s e (DDO [])) : DDS (ledOf w) s e [] [] :=
  ⟨h, fun p hp => by simp at hp, .nil, .nil, fun p hp => by simp at hp, fun p hp => by simp at hp, fun p hp => by simp at hp⟩

theorem DDS.item (x : DDS (ledOf w) s e tb kv) {k : Nat} {t : Tok} (h7 : k < 7) (hsys : e ≠ sysModules) {Q : Value → Shared → Prop}
    (hQ : ∀ s' tb' v, Kp (· = e) No s s' → DDS (ledOf w) s' e tb' kv → (k, v) ∈ tb' → (∀ p ∈ tb', p ∈ tb ∨ Above s p.2) → Q (.ref v) s') :
    wpAny (model prog w) A (getItem (.ref e) (.int k t)) Q E s := by
  by_cases hm : ∃ v, (k, v) ∈ tb
  · obtain ⟨v, hm⟩ := hm
    refine dd_item x.obj x.small x.keys h7 hm fun s' e1 => ?_
    exact hQ s' tb v (kp_no e1) (x.kp e1 id fun _ _ => id) hm fun p hp => .inl hp
  · have hno : ∀ p ∈ tb, p.1 ≠ k := fun p hp hk => hm ⟨p.2, by rw [← hk]; exact hp⟩
    refine dd_missing x.obj hsys x.small (by have := x.len; omega) h7 hno fun s' v e1 hv a1 v1 => ?_
    have hne : v ≠ e := by have := x.obj.above hv; omega
    have hnp : ∀ p ∈ tb, p.2 ≠ v := fun p hp => by
      obtain ⟨ks, h1, _⟩ := x.sets p hp
      have := h1.above hv; omega
    refine hQ s' (tb ++ [(k, v)]) v e1 ⟨a1, ?_, ?_, ?_, ?_, ?_, ?_⟩ (by simp) fun p hp => ?_
    · intro p hp
      rcases List.mem_append.mp hp with hp | hp
      · exact x.small p hp
      · simp at hp; subst hp; exact h7
    · rw [List.map_append]
      refine List.nodup_append.mpr ⟨x.keys, by simp, ?_⟩
      intro y hy z hz
      simp at hz; subst hz
      obtain ⟨p, hp, rfl⟩ := List.mem_map.mp hy
      exact hno p hp
    · rw [List.map_append]
      refine List.nodup_append.mpr ⟨x.addrs, by simp, ?_⟩
      intro y hy z hz
      simp at hz; subst hz
      obtain ⟨p, hp, rfl⟩ := List.mem_map.mp hy
      exact hnp p hp
    · intro p hp
      rcases List.mem_append.mp hp with hp | hp
      · exact x.apart p hp
      · simp at hp; subst hp; exact hne
    · intro p hp
      rcases List.mem_append.mp hp with hp | hp
      · obtain ⟨ks, h1, h2⟩ := x.sets p hp
        exact ⟨ks, h1.kp e1 (x.apart p hp), h2⟩
      · simp at hp; subst hp
        refine ⟨[], v1, fun y => ?_⟩
        simp only [List.not_mem_nil, false_iff]
        intro hkv
        obtain ⟨a', ha'⟩ := x.all _ hkv
        exact hno _ ha' rfl
    · intro q hq
      obtain ⟨a', ha'⟩ := x.all q hq
      exact ⟨a', by simp [ha']⟩
    · rcases List.mem_append.mp hp with hp | hp
      · exact .inl hp
      · simp at hp; subst hp; exact .inr hv

theorem nodup_fst {l : List (Nat × Nat)} (h : (l.map (·.2)).Nodup) {p q : Nat × Nat} (hp : p ∈ l) (hq : q ∈ l) (e : p.2 = q.2) : p = q := by
  obtain ⟨i, hi, rfl⟩ := List.getElem_of_mem hp
  obtain ⟨j, hj, rfl⟩ := List.getElem_of_mem hq
  have h1 : (l.map (·.2))[i]'(by simpa using hi) = (l.map (·.2))[j]'(by simpa using hj) := by simpa using e
  have : i = j := (List.getElem_inj h).mp h1
  subst this; rfl

theorem DDS.add (x : DDS (ledOf w) s e tb kv) {k v y : Nat} {t : Tok} (hv : (k, v) ∈ tb) (h7 : y < 7) {Q : Value → Shared → Prop}
    (hQ : ∀ s', Kp (· = v) No s s' → DDS (ledOf w) s' e tb (kv ++ [(k, y)]) → Q .none s') :
    wpAny (model prog w) A (call (.builtin "set.add") [.ref v, .int y t]) Q E s := by
  obtain ⟨ks, h1, h2⟩ := x.sets _ hv
  refine call_set_add_ok h1 h7 fun s' e1 a1 => hQ s' e1 ⟨x.obj.kp e1 (Ne.symm (x.apart _ hv)), x.small, x.keys, x.addrs, x.apart, ?_, ?_⟩
  · intro p hp
    by_cases hpv : p.2 = v
    · have hpe : p = (k, v) := nodup_fst x.addrs hp hv hpv
      subst hpe
      refine ⟨_, a1, fun z => ?_⟩
      rw [List.mem_append, ← h2 z]
      by_cases hyk : y ∈ ks
      · rw [if_pos hyk]
        constructor
        · exact .inl
        · rintro (h | h)
          · exact h
          · simp at h; subst h; exact hyk
      · rw [if_neg hyk, mem_ins]
        constructor
        · rintro (h | h)
          · subst h; exact .inr (by simp)
          · exact .inl h
        · rintro (h | h)
          · exact .inr h
          · simp at h; exact .inl h
    · obtain ⟨ks', h3, h4⟩ := x.sets p hp
      refine ⟨ks', h3.kp e1 hpv, fun z => ?_⟩
      rw [List.mem_append, ← h4 z]
      constructor
      · exact .inl
      · rintro (h | h)
        · exact h
        · exfalso
          simp at h
          -- the keys are nodup: p.1 = k means p = (k, v)
          obtain ⟨i, hi, e1⟩ := List.getElem_of_mem hp
          obtain ⟨j, hj, e2⟩ := List.getElem_of_mem hv
          have h5 : (tb.map (·.1))[i]'(by simpa using hi) = (tb.map (·.1))[j]'(by simpa using hj) := by simp [e1, e2, h.1]
          have : i = j := (List.getElem_inj x.keys).mp h5
          subst this
          rw [e1] at e2
          exact hpv (by rw [e2])
  · intro q hq
    rcases List.mem_append.mp hq with hq | hq
    · exact x.all q hq
    · simp at hq; subst hq; exact ⟨v, hv⟩
end
end Mine
end DD3Part

section SgPart
open PySem PySem.W PyProof.Rows PySem.Calls
namespace Mine

/-- a generator's piece, run from here to its next stop, ends in Φ -/
def Sg (M : Model) (A : Around) (Φ : End → Shared → Prop) (c : Code) (t : Sem Fin) (fs : List Frame) (s : Shared) : Prop :=
  ∀ Γ p, Γ.code = c → Γ.Woken A → ∃ e s', Runs M Γ p t fs s e s' ∧ Φ e s'

section
variable {M : Model} {A : Around} {Φ : End → Shared → Prop} {c : Code} {fs : List Frame} {s : Shared}

theorem sg_wrap {α : Type} {m : Sem α} {K : α → Sem Fin} {H : Value → Sem Fin} {gd lv}
    (h : wpAny M (A.over c fs) m (fun a s' => Sg M A Φ c (K a) fs s') (fun x s' => Sg M A Φ c (H x) fs s') s) : Sg M A Φ c (m.wrap K H gd lv) fs s := by
  rintro Γ p rfl hΓ
  exact runs_wrap_of_wp K H gd lv m (h (Γ.over fs) p (hΓ.over fs)) (fun a p' s' h' => h' Γ p' rfl hΓ) (fun x p' s' h' => h' Γ p' rfl hΓ)

theorem sg_bind {α : Type} {m : Sem α} {K : α → Sem Fin}
    (h : wpAny M (A.over c fs) m (fun a s' => Sg M A Φ c (K a) fs s') (fun x s' => Sg M A Φ c (.raise x) fs s') s) : Sg M A Φ c (m >>= K) fs s := by
  rw [Sem.bind_eq_wrap']; exact sg_wrap h

theorem sg_mono {Ψ : End → Shared → Prop} {t : Sem Fin} (h : Sg M A Φ c t fs s) (i : ∀ e s', Φ e s' → Ψ e s') : Sg M A Ψ c t fs s := fun Γ p hc hΓ =>
  let ⟨e, s', hr, hp⟩ := h Γ p hc hΓ; ⟨e, s', hr, i e s' hp⟩

theorem sg_at {p' : Pos} {k : Unit → Sem Fin} (h : Sg M A Φ c (k ()) fs s) : Sg M A Φ c (.at p' k) fs s :=
  sg_wrap (m := standAt p') (K := k) (H := .raise) (gd := id) (lv := id) (wpAny_standAt h)
theorem sg_point {l : List Value} {k : Unit → Sem Fin} (h : Sg M A Φ c (k ()) fs s) : Sg M A Φ c (.point l k) fs s :=
  sg_wrap (m := point) (K := k) (H := .raise) (gd := id) (lv := fun _ => l) (wpAny_point h)

theorem sg_call {c' : Code} {h g l} {k : Result → Sem Fin} (hc : ∀ p, Sg M A Φ c' (M.den c') (.ret k h g l c p [] :: fs) s) : Sg M A Φ c (.call c' h g l k) fs s := by
  rintro Γ p rfl hΓ
  obtain ⟨e, s', hr, he⟩ := hc p (Γ.goto c') p rfl (hΓ.goto c')
  exact ⟨e, s', runs_call_seg hr, he⟩

theorem sg_leaf {k h g l c₁ p₁ kp} (r : Result) (hk : Sg M A Φ c₁ (k r) fs s) : Sg M A Φ c (leafOf r) (.ret k h g l c₁ p₁ kp :: fs) s := by
  rintro Γ p rfl hΓ
  obtain ⟨e, s', hr, he⟩ := hk (Γ.goto c₁) p₁ rfl (hΓ.goto c₁)
  exact ⟨e, s', Runs.pop r hr, he⟩

theorem sg_again {c' : Code} (hq : c'.quiet = true) (hc : Sg M A Φ c' (M.den c') fs s) : Sg M A Φ c (.pure (.again c')) fs s := by
  rintro Γ p rfl hΓ
  obtain ⟨e, s', hr, he⟩ := hc (Γ.goto c') p rfl (hΓ.goto c')
  exact ⟨e, s', Runs.head (c₁ := c') (fun _ _ x => .again hq x) hr, he⟩

theorem sg_end (r : Result) (h : Φ (.ret r) s) : Sg M A Φ c (leafOf r) [] s := by
  rintro Γ p rfl _
  exact ⟨.ret r, s, Runs.leaf r, h⟩

theorem sg_yield {v g l} {k : Resume → Sem Fin} (hfs : splitAtGen fs = none) (h : ∀ p, Φ (.susp v g l k c p fs) s) : Sg M A Φ c (.yield v g l k) fs s := by
  rintro Γ p rfl _
  exact ⟨_, s, Runs.yield' fs hfs, h p⟩

/-- what a sleeping generator does when it is woken -/
def Woke (M : Model) (A : Around) (Φ : End → Shared → Prop) (gs : GenState) (s : Shared) : Prop :=
  match gs with
  | .fresh c => Sg M A Φ c (M.den c) [] s
  | .suspended kk _ c _ fs _ => Sg M A Φ c (kk (.send .none)) fs s
  | _ => False

theorem resume_ok {E : Value → Shared → Prop} {g : Nat} {gs : GenState} {l : List Value} {α : Type} {k : GenResult → Sem α} {Q : α → Shared → Prop} (hg : s.gens[g]? = some gs)
    (hw : Woke M A Φ gs (s.setGen g .running)) (hΦ : ∀ e s₁, Φ e s₁ → e.quiet = true ∧ wpAny M A (k e.result) Q E (s₁.setGen g e.genState)) :
    wpAny M A (.resume g (.send .none) l k) Q E s := by
  intro Γ p hΓ
  rw [Sem.wp_resume]
  cases gs with
  | fresh c =>
    obtain ⟨e₁, s₁, hr, he⟩ := hw (Γ.wake c p) p rfl (hΓ.wake c p)
    obtain ⟨h1, h2⟩ := hΦ e₁ s₁ he
    exact ⟨_, _, by unfold Wakes; rw [hg]; exact ⟨e₁, s₁, hr, h1, rfl, rfl⟩, h2 Γ p hΓ⟩
  | suspended k₀ l₀ c₀ p₀ fs₀ cl =>
    obtain ⟨e₁, s₁, hr, he⟩ := hw (Γ.wake c₀ p) p₀ rfl (hΓ.wake c₀ p)
    obtain ⟨h1, h2⟩ := hΦ e₁ s₁ he
    exact ⟨_, _, by unfold Wakes; rw [hg]; exact ⟨e₁, s₁, hr, h1, rfl, rfl⟩, h2 Γ p hΓ⟩
  | running => exact hw.elim
  | finished => exact hw.elim
end

section
variable {prog : Program} {w : World} {A : Around} {E : Value → Shared → Prop} {s : Shared} {Φ : End → Shared → Prop}

theorem setGen_self {s : Shared} {g : Nat} {gs x : GenState} (h : s.gens[g]? = some gs) : (s.setGen g x).gens[g]? = some x := by
  obtain ⟨hlt, _⟩ := Array.getElem?_eq_some_iff.mp h
  show (s.gens.setIfInBounds g x)[g]? = _
  rw [Array.getElem?_setIfInBounds_self_of_lt hlt]
theorem setGen_other {s : Shared} {g i : Nat} {x : GenState} (h : i ≠ g) : (s.setGen g x).gens[i]? = s.gens[i]? := by
  show (s.gens.setIfInBounds g x)[i]? = _
  rw [Array.getElem?_setIfInBounds_ne (Ne.symm h)]
theorem bare_set {s : Shared} {g : Nat} {x : GenState} (hx : x.bare = true) (h : AllBare s.gens) : AllBare (s.setGen g x).gens := by
  intro y hy
  obtain ⟨i, hi⟩ := Array.mem_iff_getElem?.mp hy
  by_cases hig : i = g
  · subst hig
    cases hs : s.gens[i]? with
    | none =>
      have h2 : (s.gens.setIfInBounds i x)[i]? = none := by
        have : s.gens.size ≤ i := Array.getElem?_eq_none_iff.mp hs
        rw [Array.getElem?_eq_none_iff]; simpa using this
      rw [show (s.setGen i x).gens[i]? = none from h2] at hi; cases hi
    | some z => rw [setGen_self hs] at hi; cases hi; exact hx
  · rw [setGen_other hig] at hi
    exact h _ (Array.mem_iff_getElem?.mpr ⟨i, hi⟩)
theorem Kp.setGen {P : Nat → Prop} {D : Nat → Prop} {s : Shared} {g : Nat} {x : GenState} (hx : x.bare = true) (hd : D g) : Kp P D s (s.setGen g x) :=
  ⟨fun _ _ _ e => e, by show _ ≤ (s.gens.setIfInBounds g x).size; simp, fun i v hi e => by
    by_cases hig : i = g
    · subst hig; exact absurd hd hi
    · rw [setGen_other hig]; exact e, bare_set hx, rfl, rfl⟩

/-- the next item of a generator -/
theorem next_gen {a g : Nat} {gs : GenState} {Q : Option Value → Shared → Prop} (hh : A.handled = none) (hl : s.heap.NoLimit) (hroom : A.depth < recursionLimit)
    (hg : s.heap.IsGen a g) (hgs : s.gens[g]? = some gs) (hw : Woke (model prog w) A.in1 Φ gs (s.setGen g .running))
    (hΦ : ∀ e s₁, Φ e s₁ → (e = .ret (.ok (.ret .none)) ∧ (∀ s', Kp No No (s₁.setGen g .finished) s' → Q none s')) ∨ (∃ v, e.result = .yielded v ∧ e.quiet = true ∧ Q (some v) (s₁.setGen g e.genState))) :
    wpAny (model prog w) A (pyNext (.ref a)) Q E s := by
  unfold pyNext
  refine wpAny_bind (wpAny_attempt (wpAny_callSpecial?_slot (name := Str.ofString "__next__") hg.typeIs slot_gen_next
    (wpAny_call_entry slot_gen_next hg.typeIs entry_gen_next ?_ (args_gen_next _))))
  show wpAny _ _ (Builtin.Generator.genWake (.ref a) (.send .none)) _ _ s
  unfold Builtin.Generator.genWake
  refine wpAny_bind (wpAny_holding (wpAny_genNumber hg (wpAny_bind (wpAny_genState hgs ?_))))
  cases gs with
  | running => exact hw.elim
  | finished => exact hw.elim
  | _ =>
    refine wpAny_bind (wpAny_roomToWake hl hroom ?_)
    show wpAny _ _ (.resume g (.send .none) [] _) _ _ s
    refine resume_ok hgs hw fun e s₁ he => ?_
    rcases hΦ e s₁ he with ⟨rfl, hq⟩ | ⟨v, hv, hqu, hq⟩
    · refine ⟨rfl, ?_⟩
      show wpAny _ _ (newExc (.type "StopIteration") [] >>= _) _ _ _
      refine wpAny_bind ?_
      simp only [newExc, newTuple]
      refine wpAny_bind (wpAny_newObj_type ?_ (by size_fits))
      refine wpAny_bind (m := firstArgMember _ _) (wpAny_of_eq (a := Value.none) (by first | rfl | (simp only [firstArgMember]; rfl)) ?_)
      refine wpAny_newObj_type ?_ (by size_fits)
      simp only [raiseNew]
      refine wpAny_bind (wpAny_bind (wpAny_handled ?_))
      rw [show A.in1.handled = none from hh]
      refine wpAny_throw ?_
      refine wpAny_bind (wpAny_isInstance (T := "StopIteration") (b := true) ⟨_, Heap.get?_push_size _ rfl, rfl⟩ isSubtype_stop ?_)
      refine wpAny_pure (hq _ ?_)
      exact Kp.keeps (tk := (s₁.setGen g .finished).toks) fun b o hb => Heap.get?_push_of_some _ (Heap.get?_push_of_some _ hb)
    · refine ⟨hqu, ?_⟩
      rw [hv]
      exact wpAny_pure ⟨v, rfl, wpAny_pure hq⟩
end
end Mine
end SgPart

section Sg2Part
open PySem PySem.W PyProof.Rows PySem.Calls
namespace Mine

section
variable {M : Model} {A : Around} {Φ : End → Shared → Prop} {c : Code} {fs : List Frame} {s : Shared} {env : Env}
  {K : Flow → Sem Fin} {H : Value → Sem Fin} {gd : Bool → Bool} {lv : List Value → List Value}

theorem sg_cons {st : Stmt} {rest : List Stmt}
    (h : Sg M A Φ c ((exec st env).wrap (fun f => match f with | .next => (execs rest env).wrap K H gd lv | f => K f) H gd lv) fs s) :
    Sg M A Φ c ((execs (st :: rest) env).wrap K H gd lv) fs s := by rw [execs_cons_wrap]; exact h

/-- a statement that doesn't yield -/
theorem sg_stmt {st : Stmt} {rest : List Stmt}
    (h : wpAny M (A.over c fs) (exec st env) (fun f s' => f = .next ∧ Sg M A Φ c ((execs rest env).wrap K H gd lv) fs s') (fun _ _ => False) s) :
    Sg M A Φ c ((execs (st :: rest) env).wrap K H gd lv) fs s := by
  refine sg_cons (sg_wrap (wpAny_mono h (fun f s' h' => ?_) fun _ _ h' => h'.elim))
  obtain ⟨rfl, h'⟩ := h'
  exact h'

theorem sg_yields {e : Expr} {ypos pos : Pos} (hfs : splitAtGen fs = none)
    (h : wpAny M (A.over c fs) (eval e env) (fun v s' => ∀ g l kk p, kk (.send .none) = K .next → g = gd false → Φ (.susp v g l kk c p fs) s') (fun _ _ => False) s) (hco : env.scope.isCoroutine = false := by rfl) (hi : interactive env = false := by rfl) :
    Sg M A Φ c ((exec (.Expr (.Yield (some e) ypos) pos) env).wrap K H gd lv) fs s := by
  rw [exec_Expr env _ pos hi rfl]
  show Sg M A Φ c (.at pos fun _ => ((eval e env >>= fun v => (standAt ypos >>= fun _ => yieldOut env v)) >>= fun x =>
    dropValue (.Yield (some e) ypos) pos x).wrap K H gd lv) fs s
  have hy : ∀ v, yieldOut env v = yieldValue v := fun v => by simp only [yieldOut, hco, Bool.false_eq_true, if_false]
  simp only [hy]
  refine sg_at ?_
  rw [Sem.bind_eq_wrap', Sem.bind_eq_wrap', Sem.wrap_wrap, Sem.wrap_wrap]
  refine sg_wrap (wpAny_mono h (fun v s' h' => ?_) fun _ _ x => x.elim)
  refine sg_at (sg_yield hfs fun p => ?_)
  exact h' _ _ _ p rfl rfl

theorem sg_While {test : Expr} {body orelse : List Stmt} {pos : Pos}
    (h : ∀ p k, k (.ok .next) = K .next → Sg M A Φ (.whileLoop test body orelse env) (M.den (.whileLoop test body orelse env)) (.ret k none (gd false) (lv []) c p [] :: fs) s) :
    Sg M A Φ c ((exec (.While test body orelse pos) env).wrap K H gd lv) fs s :=
  sg_at (sg_call fun p => h p _ rfl)
end

section
variable {prog : Program} {w : World} {A : Around} {Φ : End → Shared → Prop} {fs : List Frame} {s : Shared} {env : Env}

theorem sg_whileLoop {test : Expr} {body orelse : List Stmt}
    (h : wpAny (model prog w) (A.over (.whileLoop test body orelse env) fs) (isTrue test env (eval test env)) (fun b s' =>
        if b = true then ∀ H, Sg (model prog w) A Φ (.whileLoop test body orelse env) ((execs body env).wrap (fun f => match f with
            | .next | .cont => .pure (.again (.whileLoop test body orelse env))
            | .brk => .pure (.done .next)
            | .ret v => .pure (.done (.ret v))) H id id) fs s'
        else ∀ H, Sg (model prog w) A Φ (.whileLoop test body orelse env) ((execs orelse env).wrap (fun f => .pure (.done f)) H id id) fs s')
      (fun _ _ => False) s) :
    Sg (model prog w) A Φ (.whileLoop test body orelse env) ((model prog w).den (.whileLoop test body orelse env)) fs s := by
  show Sg _ A Φ _ ((whileTurn test body orelse env).onRaise (fun x => do noteFrame x env; theTreesLotGoes x)) fs s
  unfold whileTurn
  rw [Sem.onRaise_eq_wrap, Sem.bind_eq_wrap', Sem.wrap_wrap]
  refine sg_wrap (wpAny_mono h (fun b s' hb => ?_) fun x s' hx => hx.elim)
  cases b with
  | true =>
    rw [if_pos rfl] at hb
    show Sg _ A Φ _ (Sem.wrap _ _ _ _ (if true = true then _ else _)) fs s'
    rw [if_pos rfl, Sem.bind_eq_wrap', Sem.wrap_wrap]
    rw [Sem.wrap_congr (execs body env) _ _ (K' := fun f => match f with
          | .next | .cont => .pure (.again (.whileLoop test body orelse env))
          | .brk => .pure (.done .next)
          | .ret v => .pure (.done (.ret v))) (fun f => by cases f <;> rfl) (fun _ => rfl)]
    exact hb _
  | false =>
    rw [if_neg Bool.false_ne_true] at hb
    show Sg _ A Φ _ (Sem.wrap _ _ _ _ (if false = true then _ else _)) fs s'
    rw [if_neg Bool.false_ne_true, Sem.bind_eq_wrap', Sem.wrap_wrap]
    rw [Sem.wrap_congr (execs orelse env) _ _ (K' := fun f => (.pure (.done f) : Sem Fin)) (fun f => by rfl) (fun _ => rfl)]
    exact hb _

theorem sg_func {body : List Stmt}
    (h : ∀ H, Sg (model prog w) A Φ (.func body env) ((execs body env).wrap (fun f => .pure (.done (.ret (match f with | .ret v => v | _ => .none)))) H id id) fs s) :
    Sg (model prog w) A Φ (.func body env) ((model prog w).den (.func body env)) fs s := by
  show Sg _ A Φ _ (.point [] fun _ => ((execs body env).onRaise (leaving env)) >>= _) fs s
  refine sg_point ?_
  rw [Sem.onRaise_eq_wrap, Sem.bind_eq_wrap', Sem.wrap_wrap]
  rw [Sem.wrap_congr (execs body env) _ _ (K' := fun f => .pure (.done (.ret (match f with | .ret v => v | _ => .none)))) (fun f => by cases f <;> rfl) (fun _ => rfl)]
  exact h _
end
end Mine
end Sg2Part

section CtxPart
open PySem PySem.W PyProof.Rows PySem.Calls
namespace Mine

def NsO (m : Str → Option Value) (o : Obj) : Prop := ∃ es ep, o.data = .dict es ep ∧ StrKeys es ∧ ∀ name, nsFind es name = m name
/-- a frame's names, as far as they are told -/
def VarsO (l : List (Str × Value)) (o : Obj) : Prop := ∃ m, NsO m o ∧ ∀ p ∈ l, m p.1 = some p.2
def CellO (v : Option Value) (o : Obj) : Prop := o.data = .cell v
def GenO (g : Nat) (o : Obj) : Prop := ∃ nm qn, o.cls = .type "generator" ∧ o.data = .fields #[.int g 0, nm, qn] ∧ o.slots = #[]

theorem at_ns {s : Shared} {L : Nat} {m} : At s L (NsO m) ↔ s.heap.Ns L m :=
  ⟨fun ⟨o, g, es, ep, r⟩ => ⟨o, es, ep, g, r⟩, fun ⟨o, es, ep, g, r⟩ => ⟨o, g, es, ep, r⟩⟩
theorem vars_ns {s : Shared} {L : Nat} {l} (h : At s L (VarsO l)) : ∃ m, s.heap.Ns L m ∧ ∀ p ∈ l, m p.1 = some p.2 := let ⟨o, g, m, h1, h2⟩ := h; ⟨m, at_ns.mp ⟨o, g, h1⟩, h2⟩
theorem vars_of {s : Shared} {L : Nat} {l m} (h : s.heap.Ns L m) (h2 : ∀ p ∈ l, m p.1 = some p.2) : At s L (VarsO l) := (at_ns.mpr h).imp fun _ x => ⟨m, x, h2⟩
theorem vars_sub {s : Shared} {L : Nat} {l l'} (h : At s L (VarsO l)) (h2 : ∀ p ∈ l', p ∈ l) : At s L (VarsO l') := h.imp fun _ ⟨m, x, y⟩ => ⟨m, x, fun p hp => y p (h2 p hp)⟩
theorem gen_is {s : Shared} {a g : Nat} (h : At s a (GenO g)) : s.heap.IsGen a g := let ⟨o, e, nm, qn, r⟩ := h; ⟨o, nm, qn, e, r⟩

section
variable {M : Model} {A : Around} {E : Value → Shared → Prop} {s : Shared} {env : Env} {l l' : List (Str × Value)} {x : Str} {v : Value}

theorem ld_local {L : Nat} {Q : Value → Shared → Prop} (h : At s L (VarsO l)) (hm : (x, v) ∈ l) (hQ : Q v s) (hL : env.locals = L := by rfl) (hk : env.scope.kind = .function := by rfl) (hl : env.kindOf x = some .local := by rfl) :
    wpAny M A (loadName env x) Q E s := let ⟨_, h1, h2⟩ := vars_ns h; wpAny_loadName_local hk hl (hL ▸ h1) (h2 _ hm) hQ
theorem ev_local {L : Nat} {Q : Value → Shared → Prop} {pos : Pos} (h : At s L (VarsO l)) (hm : (x, v) ∈ l) (hQ : Q v s) (hL : env.locals = L := by rfl) (hk : env.scope.kind = .function := by rfl) (hl : env.kindOf x = some .local := by rfl)
    (hd : (x == ("__debug__" : Str)) = false := by decide) : wpAny M A (eval (.Name x pos) env) Q E s := wpAny_Name (ld_local h hm hQ hL hk hl) hd

theorem st_local {L : Nat} {Q : Unit → Shared → Prop} (l' : List (Str × Value)) (h : At s L (VarsO l)) (hl' : ∀ p ∈ l', p ∈ l ∧ p.1 ≠ x)
    (hQ : ∀ s', Kp (· = L) No s s' → At s' L (VarsO ((x, v) :: l')) → Q () s') (hL : env.locals = L := by rfl) (hk : env.scope.kind = .function := by rfl) (hl : env.kindOf x = some .local := by rfl) :
    wpAny M A (storeName env x v) Q E s := by
  obtain ⟨m, h1, h2⟩ := vars_ns h
  subst hL
  refine wpAny_storeName_local hl h1 (fun h' hn hs => ?_) (by rw [hk]; rfl)
  refine hQ _ (Kp.same hs) (vars_of hn fun p hp => ?_)
  rcases List.mem_cons.mp hp with rfl | hp
  · simp
  · show (if p.1 = x then some v else m p.1) = some p.2
    rw [if_neg (hl' p hp).2]; exact h2 p (hl' p hp).1

theorem ev_cell {Q : Value → Shared → Prop} {pos : Pos} {c : Nat} (h : At s c (CellO (some v))) (hQ : Q v s) (hc : env.cells.lookup x = some c := by rfl) (hk : env.scope.kind = .function := by rfl) (hl : env.kindOf x = some .cell := by rfl)
    (hd : (x == ("__debug__" : Str)) = false := by decide) : wpAny M A (eval (.Name x pos) env) Q E s := wpAny_Name (wpAny_loadName_cell hk hl hc h hQ) hd
theorem ev_free {Q : Value → Shared → Prop} {pos : Pos} {c : Nat} (h : At s c (CellO (some v))) (hQ : Q v s) (hc : env.cells.lookup x = some c := by rfl) (hk : env.scope.kind = .function := by rfl) (hl : env.kindOf x = some .free := by rfl)
    (hd : (x == ("__debug__" : Str)) = false := by decide) (hn : (x == ("__classdict__" : Str)) = false := by decide) : wpAny M A (eval (.Name x pos) env) Q E s := wpAny_Name (wpAny_loadName_free hk hl hc h hQ hn) hd
theorem st_cell {Q : Unit → Shared → Prop} {c : Nat} {v₀ : Option Value} (h : At s c (CellO v₀)) (hQ : ∀ s', Kp (· = c) No s s' → At s' c (CellO (some v)) → Q () s')
    (hc : env.cells.lookup x = some c := by rfl) (hk : env.scope.kind = .function := by rfl) (hl : env.kindOf x = some .cell := by rfl) : wpAny M A (storeName env x v) Q E s := by
  refine wpAny_storeName_cell hk hl hc h fun h' hc' hs => ?_
  exact hQ _ (Kp.same (tk := s.toks) hs) hc'

end

/-- what the text's top has laid -/
structure Bs (w : World) (h : Heap) : Prop where
  K : (Mine.hd.heap_39 w.params).In h
  b : ∃ mb, h.Ns builtinsNs mb ∧ ∀ x : Str, x ≠ "__name__" → mb x = bootBuiltins x
  nolimit : h.NoLimit

theorem Bs.keeps {w : World} {h h' : Heap} (B : Bs w h) (hk : ∀ b o, h.get? b = some o → h'.get? b = some o) : Bs w h' :=
  ⟨B.K.keeps hk, let ⟨mb, h1, h2⟩ := B.b; ⟨mb, h1.keeps hk, h2⟩, B.nolimit.keeps hk⟩

noncomputable def fdOf (P : Params) (a : Nat) : FuncData := match (Mine.hd.heap_39 P).lookup a with | some ⟨_, _, .func f, _⟩ => f | _ => default
noncomputable def gl (P : Params) (x : Str) : Option Value := match (Mine.hd.heap_39 P).lookup 3 with | some ⟨_, _, .dict es _, _⟩ => nsFind es x | _ => none
def bodyOf (fd : FuncData) : List Stmt := match fd.body with | .stmts b => b | _ => []

theorem Bs.glob {w : World} {h : Heap} (B : Bs w h) : h.Ns mainGlobals (gl w.params) := by
  have g := B.K 3 _ rfl
  refine ⟨_, _, _, g, rfl, ?_, fun _ => rfl⟩
  intro e he
  simp only [List.mem_toArray, List.mem_cons, List.not_mem_nil, or_false] at he
  rcases he with rfl | rfl | rfl | rfl | rfl | rfl | rfl | rfl | rfl | rfl | rfl | rfl | rfl | rfl | rfl | rfl | rfl <;> exact ⟨_, _, rfl⟩

theorem Bs.size {w : World} {h : Heap} (B : Bs w h) : 88 ≤ h.objs.size := Heap.lt_size (B.K 87 _ rfl)

theorem small_K (P : Params) : ∀ a o, (Mine.hd.heap_39 P).lookup a = some o → a < 88 := by
  intro a o h
  have : ∀ p ∈ Mine.hd.heap_39 P, p.1 < 88 := by
    have : (Mine.hd.heap_39 P).all (fun p => decide (p.1 < 88)) = true := rfl
    intro p hp
    exact of_decide_eq_true (List.all_eq_true.mp this p hp)
  have hm : (a, o) ∈ Mine.hd.heap_39 P := by
    generalize Mine.hd.heap_39 P = K at *
    induction K with
    | nil => simp at h
    | cons q r ih =>
      rw [List.lookup_cons] at h
      split at h
      · rename_i he
        have : a = q.1 := by simpa using he
        subst this
        cases h
        exact List.mem_cons_self
      · exact List.mem_cons_of_mem _ (ih h (fun p hp => this p (List.mem_cons_of_mem _ hp)))
  exact this _ hm

theorem Bs.kp {w : World} {s s' : Shared} {P D} (B : Bs w s.heap) (e : Kp P D s s') (hp : ∀ b, P b → 88 ≤ b) : Bs w s'.heap := by
  have hk : ∀ (b : Nat) o, b < 88 → s.heap.get? b = some o → s'.heap.get? b = some o := fun b o hb g => e.keep b o (fun h => by have := hp b h; omega) g
  have kN : ∀ {a : Nat} {m}, a < 88 → s.heap.Ns a m → s'.heap.Ns a m := fun ha ⟨o, es, ep, g, r⟩ => ⟨o, es, ep, hk _ _ ha g, r⟩
  refine ⟨fun a o h => hk a o (small_K _ a o h) (B.K a o h), ?_, ?_⟩
  · obtain ⟨mb, h1, h2⟩ := B.b
    exact ⟨mb, kN (by decide) h1, h2⟩
  · obtain ⟨mc, h1, h2⟩ := B.nolimit
    exact ⟨mc, kN (by decide) h1, h2⟩

section
variable {M : Model} {w : World} {A : Around} {E : Value → Shared → Prop} {s : Shared} {env : Env} {x : Str} {v : Value}

theorem ev_global {Q : Value → Shared → Prop} {pos : Pos} (B : Bs w s.heap) (v : Value) (hQ : Q v s) (hv : gl w.params x = some v := by rfl) (hg : env.globals = mainGlobals := by rfl) (hk : env.scope.kind = .function := by rfl) (hl : env.kindOf x = some .globalImplicit := by rfl)
    (hd : (x == ("__debug__" : Str)) = false := by decide) : wpAny M A (eval (.Name x pos) env) Q E s :=
  Name_function_global hk hl (loadGlobal_global (by rw [hg]; exact B.glob) hv hQ) hd

theorem boot_set : bootBuiltins "set" = some (.type "set") := by decide +kernel
theorem boot_list : bootBuiltins "list" = some (.type "list") := by decide +kernel
theorem boot_max : bootBuiltins "max" = some (.builtin "max") := by decide +kernel

theorem ev_builtin {Q : Value → Shared → Prop} {pos : Pos} (B : Bs w s.heap) (hv : bootBuiltins x = some v) (hQ : Q v s) (hm : gl w.params x = none := by rfl) (hn : x ≠ "__name__" := by decide) (hg : env.globals = mainGlobals := by rfl) (hb : env.builtins = builtinsNs := by rfl)
    (hk : env.scope.kind = .function := by rfl) (hl : env.kindOf x = some .globalImplicit := by rfl) (hd : (x == ("__debug__" : Str)) = false := by decide) : wpAny M A (eval (.Name x pos) env) Q E s := by
  obtain ⟨mb, h1, h2⟩ := B.b
  exact Name_function_global hk hl (loadGlobal_builtin (by rw [hg]; exact B.glob) hm (by rw [hb]; exact h1) ((h2 x hn).trans hv) hQ) hd
end
end Mine
end CtxPart

section Sub1Part
open PySem PySem.W PyProof.Rows PySem.Calls
namespace Mine

noncomputable abbrev envSub (P : Params) (L : Nat) : Env := callEnvC (fdOf P 57) L 57

theorem Kp.gens {P : Nat → Prop} {D : Nat → Prop} {s : Shared} {x : GenState} {tk : Nat} {h' : Heap} (hx : x.bare = true) (hk : ∀ b o, s.heap.get? b = some o → h'.get? b = some o) :
    Kp P D s { s with gens := s.gens.push x, toks := tk, heap := h' } :=
  ⟨fun b o _ e => hk b o e, by simp, fun i v _ e => by
    have hi := (Array.getElem?_eq_some_iff.mp e).1
    show (s.gens.push x)[i]? = _
    rw [Array.getElem?_push, if_neg (by omega)]; exact e, fun h => AllBare.push h hx, rfl, rfl⟩

section
variable {prog : Program} {w : World} {A : Around} {E : Value → Shared → Prop} {s : Shared}

theorem sub_create {t i : Value} {Q : Value → Shared → Prop} (B : Bs w s.heap) (hroom : A.depth < recursionLimit)
    (hQ : ∀ s' G g L, Kp No No s s' → Above s L → Above s G → L + 1 < G → s.gens.size ≤ g → At s' G (GenO g) → s'.gens[g]? = some (.fresh (.func (bodyOf (fdOf w.params 57)) (envSub w.params L))) →
      At s' L (VarsO [("tuples", t), ("allitems", i)]) → At s' (L + 1) (CellO none) → Q (.ref G) s') :
    wpAny (model prog w) A (call (.ref 57) [t, i]) Q E s := by
  refine wpAny_call ?_
  have g57 := B.K 57 _ rfl
  have g56 := B.K 56 _ rfl
  refine codeAny_call_generator (fd := fdOf w.params 57) (body := bodyOf (fdOf w.params 57)) hroom g57 rfl rfl rfl rfl ⟨56, _, _, _, rfl, g56, rfl, rfl⟩ ?_
  have hb : bindArgs (fdOf w.params 57) ⟨[t, i], []⟩ = pure [(Str.ofString "tuples", t), (Str.ofString "allitems", i)] := rfl
  refine wpAny_of_eq hb ?_
  refine wpAny_newFunctionEnv_cells rfl ?_ fun env he s1 x => ?_
  · intro p hp
    simp only [List.mem_cons, List.not_mem_nil, or_false] at hp
    rcases hp with rfl | rfl <;> exact .inl rfl
  · obtain ⟨h', tk, hs, hk⟩ := x.done
    have hL : env.locals = s.heap.objs.size := by rw [he]; rfl
    have hC : env.cells = [(Str.ofString "todo_set", s.heap.objs.size + 1)] := by rw [he]; rfl
    have hns := x.toInCall.ns
    have hcell := x.cell "todo_set" (s.heap.objs.size + 1) (by rw [hC]; rfl)
    have hcv : bindC env.kindOf [(Str.ofString "tuples", t), (Str.ofString "allitems", i)] (fun _ => none) "todo_set" = none := by rw [he]; rfl
    rw [hcv] at hcell
    rw [hL] at hns
    have hv1 : bindL env.kindOf [(Str.ofString "tuples", t), (Str.ofString "allitems", i)] (fun _ => none) "tuples" = some t := by rw [he]; rfl
    have hv2 : bindL env.kindOf [(Str.ofString "tuples", t), (Str.ofString "allitems", i)] (fun _ => none) "allitems" = some i := by rw [he]; rfl
    have hvars : At s1 s.heap.objs.size (VarsO [("tuples", t), ("allitems", i)]) := vars_of hns fun p hp => by
      simp only [List.mem_cons, List.not_mem_nil, or_false] at hp
      rcases hp with rfl | rfl
      · exact hv1
      · exact hv2
    have hcl : At s1 (s.heap.objs.size + 1) (CellO none) := hcell
    have hlt := hcl.lt
    have hke : Kp No No s s1 := by rw [hs]; exact Kp.keeps hk
    have hkp : ∀ {o : Obj} {P : Nat → Prop}, Kp P No s1 { s1 with gens := s1.gens.push (.fresh (.func (bodyOf (fdOf w.params 57)) env)), toks := s1.toks + 1 + 1, heap := s1.heap.push o } := Kp.gens rfl fun b o hb => Heap.get?_push_of_some _ hb
    have hgs : s1.gens = s.gens := by rw [hs]
    refine ⟨B.nolimit.keeps (fun b o e => hke.keep b o id e), hQ _ s1.heap.objs.size s1.gens.size s.heap.objs.size (hke.trans hkp) (above_le (Nat.le_refl _)) (above_le (by omega)) hlt (by rw [hgs]; exact Nat.le_refl _) ?_ ?_ ?_ ?_⟩
    · exact ⟨_, Heap.get?_push_size _ rfl, _, _, rfl, rfl, rfl⟩
    · show (s1.gens.push _)[s1.gens.size]? = _
      rw [Array.getElem?_push, if_pos rfl, he]
      rfl
    · exact hvars.kp (hkp (P := No)) id
    · exact hcl.kp (hkp (P := No)) id
end
end Mine
end Sub1Part

section Loops0Part
open PySem PySem.W PyProof.Rows PySem.Calls
namespace Mine
section
variable {prog : Program} {w : World} {A : Around} {E : Value → Shared → Prop} {s : Shared} {env : Env}

abbrev noE : Value → Shared → Prop := fun _ _ => False

/-- one turn of a for over any iterator -/
theorem for_turn {target : Expr} {it : Value} {body : List Stmt} {R : Result → Shared → Prop} (I : Nat → Shared → Prop)
    (turn : ∀ n s, I n s → wpAny (model prog w) A (pyNext it) (fun r s₁ => match r with
      | none => R (.ok .next) s₁
      | some v => wpAny (model prog w) A (letOwnedTupleGo target it v) (fun _ s₁' => wpAny (model prog w) A (assign target env v) (fun _ s₂ => wpAny (model prog w) A (execs body env) (fun f s₃ => match f with
          | .next | .cont => ∃ m, m < n ∧ I m s₃
          | .brk => R (.ok .next) s₃
          | .ret v => R (.ok (.ret v)) s₃) noE s₂) noE s₁') noE s₁) noE s)
    (n : Nat) (h : I n s) : codeAny (model prog w) A (.forLoop target it body [] env) R s := by
  refine codeAny_forLoop_any I (fun n s hI => wpAny_mono (turn n s hI) (fun r s₁ h₁ => ?_) fun _ _ h' => h'.elim) n h
  cases r with
  | none => exact wpAny_execs_nil h₁
  | some v => exact wpAny_mono h₁ (fun _ _ h₂ => wpAny_mono h₂ (fun _ _ h₃ => wpAny_mono h₃ (fun _ _ h₄ => h₄) fun _ _ h' => h'.elim) fun _ _ h' => h'.elim) fun _ _ h' => h'.elim

/-- a for over a list that no turn changes -/
theorem loop_list {target : Expr} {body : List Stmt} {R : Result → Shared → Prop} {l : Nat} {vs : List Value} (hh : A.handled = none) (hl : At s l (ListO vs)) (J : Nat → Nat → Shared → Prop)
    (h0 : ∀ it s', it = s.heap.objs.size → Kp No No s s' → J it 0 s')
    (keep : ∀ it i s1 s2, it = s.heap.objs.size → J it i s1 → Kp (· = it) No s1 s2 → J it i s2)
    (lst : ∀ it i s1, it = s.heap.objs.size → J it i s1 → At s1 l (ListO vs))
    (step : ∀ it i s1 v, it = s.heap.objs.size → i < vs.length → vs[i]? = some v → J it i s1 → At s1 it (IterO l (i + 1)) →
      wpAny (model prog w) A (letOwnedTupleGo target (.ref it) v) (fun _ s1' => wpAny (model prog w) A (assign target env v) (fun _ s2 => wpAny (model prog w) A (execs body env) (fun f s3 => match f with
        | .next | .cont => J it (i + 1) s3 ∧ At s3 it (IterO l (i + 1))
        | .brk => R (.ok .next) s3
        | .ret v => R (.ok (.ret v)) s3) noE s2) noE s1') noE s1)
    (fin : ∀ it s1, it = s.heap.objs.size → J it vs.length s1 → R (.ok .next) s1) :
    wpAny (model prog w) A (pyIter (.ref l)) (fun it s2 => codeAny (model prog w) A (.forLoop target it body [] env) R s2) E s := by
  refine iter_list hl fun s1 it e1 hit i1 => ?_
  refine for_turn (fun n s' => ∃ i, i + n = vs.length ∧ J it i s' ∧ At s' it (IterO l i)) (fun n s' ⟨i, hn, hJ, hi⟩ => ?_) vs.length ⟨0, by omega, h0 it s1 hit e1, i1⟩
  have hlt := (lst it i s' hit hJ)
  have hne : l ≠ it := by have := hl.lt; omega
  cases hv : vs[i]? with
  | none =>
    refine next_end hh hi hlt hv fun s2 e2 => ?_
    have : i = vs.length := by have := List.getElem?_eq_none_iff.mp hv; omega
    subst this
    exact fin it s2 hit (keep it _ s' s2 hit hJ e2)
  | some v =>
    have hiv : i < vs.length := (List.getElem?_eq_some_iff.mp hv).1
    refine next_item hi hlt hv fun s2 e2 i2 => ?_
    refine wpAny_mono (step it i s2 v hit hiv hv (keep it i s' s2 hit hJ e2) i2) (fun _ s3 h3 => wpAny_mono h3 (fun _ s4 h4 => wpAny_mono h4 (fun f s5 h5 => ?_) fun _ _ h => h) fun _ _ h => h) fun _ _ h => h
    cases f with
    | next => exact ⟨n - 1, by omega, i + 1, by omega, h5⟩
    | cont => exact ⟨n - 1, by omega, i + 1, by omega, h5⟩
    | brk => exact h5
    | ret v => exact h5

theorem owned_name {x : Str} {p : Pos} {it v : Value} {Q : Unit → Shared → Prop} (hQ : Q () s) : wpAny (model prog w) A (letOwnedTupleGo (.Name x p) it v) Q E s := wpAny_pure hQ
theorem owned_tuple {elts : List Expr} {k : Nat} {p : Pos} {it l i x : Nat} {Q : Unit → Shared → Prop} (hi : At s it (IterO l i)) (hQ : Q () s) : wpAny (model prog w) A (letOwnedTupleGo (.Tuple elts k p) (.ref it) (.ref x)) Q E s :=
  wpAny_letOwnedTupleGo_listiter (l := l) (i := i) hi hQ
end
end Mine
end Loops0Part

section PairsPart
open PySem PySem.W PyProof.Rows PySem.Calls
namespace Mine

/-- a tuple of two small ints -/
def PairO (a b : Nat) (o : Obj) : Prop := o.cls = .type "tuple" ∧ ∃ n t u, o.data = .seq #[.int a t, .int b u] n
/-- a list of pairs, all below n -/
def PairsIn (s : Shared) (n P : Nat) (ps : List (Nat × Nat)) : Prop :=
  ∃ vs, At s P (ListO vs) ∧ P < n ∧ vs.length = ps.length ∧ ∀ (i : Nat) (h : i < ps.length), ∃ x : Nat, x < n ∧ vs[i]? = some (.ref x) ∧ At s x (PairO ps[i].1 ps[i].2)

theorem PairsIn.kp {s s' : Shared} {n P : Nat} {ps} {Q D} (x : PairsIn s n P ps) (e : Kp Q D s s') (hq : ∀ b, b < n → ¬ Q b) : PairsIn s' n P ps :=
  let ⟨vs, g, hn, hl, hi⟩ := x
  ⟨vs, g.kp e (hq _ hn), hn, hl, fun i h => let ⟨x, hx, h1, g'⟩ := hi i h; ⟨x, hx, h1, g'.kp e (hq _ hx)⟩⟩

section
variable {prog : Program} {w : World} {A : Around} {E : Value → Shared → Prop} {s : Shared} {env : Env}

theorem assign_pair {p1 p2 : Str} {q1 q2 qt : Pos} {k x L a b : Nat} {l : List (Str × Value)} {Q : Unit → Shared → Prop} (hh : A.handled = none) (hx : At s x (PairO a b)) (l' : List (Str × Value)) (hL : At s L (VarsO l))
    (hl' : ∀ p ∈ l', p ∈ l ∧ p.1 ≠ p1 ∧ p.1 ≠ p2) (hne : p1 ≠ p2)
    (hQ : ∀ s' ta tb, Kp (· = L) No s s' → At s' L (VarsO ((p2, .int b tb) :: (p1, .int a ta) :: l')) → Q () s')
    (hLe : env.locals = L := by rfl) (hk : env.scope.kind = .function := by rfl) (h1 : env.kindOf p1 = some .local := by rfl) (h2 : env.kindOf p2 = some .local := by rfl) :
    wpAny (model prog w) A (assign (.Tuple [.Name p1 q1, .Name p2 q2] k qt) env (.ref x)) Q E s := by
  obtain ⟨o, g, hc, n, ta, tb, hd⟩ := hx
  refine wpAny_assign_Tuple (items := #[.int a ta, .int b tb]) hh ⟨o, g, hc, n, hd⟩ rfl rfl fun h' he => ?_
  have e1 : Kp No No s { s with heap := h' } := Kp.keeps (tk := s.toks) fun b o hb => he b o (Nat.ne_of_lt (Heap.lt_size hb)) hb
  show wpAny _ _ (do holding [Value.int (b : Int) tb] (assign (.Name p1 q1) env (.int a ta)); assignInOrder [assign (.Name p2 q2) env] [Value.int (b : Int) tb]) Q E _
  refine wpAny_bind (wpAny_holding (wpAny_assign_Name ?_))
  refine st_local l' (hL.kp e1 id) (fun p hp => ⟨(hl' p hp).1, (hl' p hp).2.1⟩) (fun s1 e2 l1 => ?_) hLe hk h1
  show wpAny _ _ (do holding [] (assign (.Name p2 q2) env (.int b tb)); pure ()) Q E _
  refine wpAny_bind (wpAny_holding (wpAny_assign_Name ?_))
  refine st_local ((p1, .int a ta) :: l') l1 (fun p hp => ?_) (fun s2 e3 l2 => ?_) hLe hk h2
  · refine ⟨hp, ?_⟩
    rcases List.mem_cons.mp hp with rfl | hp
    · exact hne
    · exact (hl' p hp).2.2
  · exact wpAny_pure (hQ s2 ta tb (((kp_no e1).trans e2).trans e3) l2)
end
end Mine
end PairsPart

section FillPart
open PySem PySem.W PyProof.Rows PySem.Calls
namespace Mine

section
variable {prog : Program} {w : World} {A : Around} {E : Value → Shared → Prop} {s : Shared} {env : Env}

/-- edges[key].add(item) -/
theorem add_stmt {en kn xn : Str} {q1 q2 q3 q4 q5 q6 q7 : Pos} {L D k x : Nat} {tk tx : Tok} {l : List (Str × Value)} {tb kv : List (Nat × Nat)} {Q : Flow → Shared → Prop}
    (hL : At s L (VarsO l)) (hD : DDS (ledOf w) s D tb kv) (hDs : D ≠ sysModules) (hLD : L ≠ D) (hk7 : k < 7) (hx7 : x < 7)
    (m1 : (en, .ref D) ∈ l) (m2 : (kn, .int k tk) ∈ l) (m3 : (xn, .int x tx) ∈ l)
    (hQ : ∀ s' tb', Kp (fun b => b = D ∨ ∃ k, (k, b) ∈ tb') No s s' → DDS (ledOf w) s' D tb' (kv ++ [(k, x)]) → (∀ p ∈ tb', p ∈ tb ∨ Above s p.2) → Q .next s')
    (hLe : env.locals = L := by rfl) (hk : env.scope.kind = .function := by rfl) (h1 : env.kindOf en = some .local := by rfl) (h2 : env.kindOf kn = some .local := by rfl) (h3 : env.kindOf xn = some .local := by rfl)
    (d1 : (en == ("__debug__" : Str)) = false := by decide) (d2 : (kn == ("__debug__" : Str)) = false := by decide) (d3 : (xn == ("__debug__" : Str)) = false := by decide)
    (hpos : (q4.endLine == q6.line) = true := by rfl) (hi : interactive env = false := by rfl) :
    wpAny (model prog w) A (exec (.Expr (.Call (.Attribute (.Subscript (.Name en q1) (.Name kn q2) q3) "add" q4) [.Name xn q5] [] q6) q7) env) Q E s := by
  refine wpAny_Expr_any ?_ hi rfl
  refine wpAny_Call_method rfl rfl hpos F.plainAttrs_set F.slot_set_add F.type_set_add ?_
  refine Subscript_ ?_
  refine ev_local hL m1 ?_ hLe hk h1 d1
  refine ev_local hL m2 ?_ hLe hk h2 d2
  refine tail_any (ddO_typeIs hD.obj) slot_dd_getitem.lookup ?_ (by with_unfolding_all rfl)
  refine hD.item hk7 hDs fun s1 tb1 v e1 dd1 hv hnew => ?_
  obtain ⟨ks, hset, _⟩ := dd1.sets _ hv
  refine ⟨setO_typeIs hset, setO_noDict hset, ?_⟩
  have hL1 := hL.kp e1 hLD
  refine PyProof.Rows.callWith_method1 ?_
  refine spliced_cons ?_
  refine ev_local hL1 m3 ?_ hLe hk h3 d3
  refine spliced_nil ?_
  refine dd1.add hv hx7 fun s2 e2 dd2 => ?_
  exact hQ s2 tb1 ((e1.mono (fun b _ _ h => .inl h) fun _ _ h => h).trans (e2.mono (fun b _ _ h => .inr ⟨k, by rw [h]; exact hv⟩) fun _ _ h => h)) dd2 hnew

/-- the pairs as (key, item) -/
def kvOf (sw : Bool) (ps : List (Nat × Nat)) : List (Nat × Nat) := ps.map fun p => if sw then (p.2, p.1) else p

structure FillJ (w : World) (s0 : Shared) (sw : Bool) (L D : Nat) (l : List (Str × Value)) (ps : List (Nat × Nat)) (it i : Nat) (s1 : Shared) : Prop where
  vars : At s1 L (VarsO l)
  kp : Kp (fun b => b = L ∨ D ≤ b) No s0 s1
  dd : ∃ tb, DDS (ledOf w) s1 D tb (kvOf sw (ps.take i)) ∧ ∀ p ∈ tb, it < p.2

theorem fill_loop (sw : Bool) {en kn xn : Str} {q0 q1 q2 q3 q4 q5 q6 q7 r1 r2 r3 r4 : Pos} {k0 L D P : Nat} {ps : List (Nat × Nat)} {l : List (Str × Value)} {Q : Flow → Shared → Prop} (hh : A.handled = none)
    (hL : At s L (VarsO l)) (hD : DDS (ledOf w) s D [] []) (hDs : D ≠ sysModules) (hLD : L < D) {n : Nat} (hP : PairsIn s n P ps) (hnL : n ≤ L) (h7 : ∀ p ∈ ps, p.1 < 7 ∧ p.2 < 7)
    (hsw : (kn, xn) = if sw then (Str.ofString "child", Str.ofString "parent") else (Str.ofString "parent", Str.ofString "child"))
    (m1 : (en, .ref D) ∈ l) (m2 : (Str.ofString "tuples", .ref P) ∈ l) (hfree : ∀ p ∈ l, p.1 ≠ "parent" ∧ p.1 ≠ "child")
    (hQ : ∀ s' tb, At s' L (VarsO l) → Kp (fun b => b = L ∨ D ≤ b) No s s' → DDS (ledOf w) s' D tb (kvOf sw ps) → (∀ p ∈ tb, D < p.2) → Q .next s')
    (hLe : env.locals = L := by rfl) (hk : env.scope.kind = .function := by rfl) (h1 : env.kindOf en = some .local := by rfl) (h2 : env.kindOf "parent" = some .local := by rfl) (h3 : env.kindOf "child" = some .local := by rfl) (h4 : env.kindOf "tuples" = some .local := by rfl)
    (d1 : (en == ("__debug__" : Str)) = false := by decide)
    (hpos : (q4.endLine == q6.line) = true := by rfl) (hi : interactive env = false := by rfl) :
    wpAny (model prog w) A (exec (.For (.Tuple [.Name "parent" r1, .Name "child" r2] k0 r3) (.Name "tuples" r4) [.Expr (.Call (.Attribute (.Subscript (.Name en q1) (.Name kn q2) q3) "add" q4) [.Name xn q5] [] q6) q7] [] q0) env) Q E s := by
  refine wpAny_For ?_
  refine ev_local hL m2 ?_ hLe hk h4
  obtain ⟨vs, hls, hPn, hlen, hat⟩ := hP
  have hDlt := hD.obj.lt
  refine loop_list hh hls (FillJ w s sw L D l ps) (fun it s' hit e => ?_) (fun it i s1 s2 hit J e => ?_) (fun it i s1 hit J => ?_) (fun it i s1 v hit hiv hv J hi1 => ?_) (fun it s1 hit J => ?_)
  · exact ⟨hL.kp e id, kp_no e, [], hD.kp e id (fun _ _ => id), fun p hp => by simp at hp⟩
  · obtain ⟨j1, j2, tb, j3, j4⟩ := J
    refine ⟨j1.kp e (by omega), j2.trans (e.mono (fun b _ _ h => .inr (by omega)) fun _ _ h => h), tb, j3.kp e (by omega) (fun p hp h => ?_), j4⟩
    have := j4 p hp; omega
  · exact hls.kp J.kp (by omega)
  · obtain ⟨j1, j2, tb, j3, j4⟩ := J
    have hip : i < ps.length := by omega
    obtain ⟨x, hxn, hx, hxp⟩ := hat i hip
    rw [hx] at hv; cases hv
    have hxp1 : At s1 x (PairO ps[i].1 ps[i].2) := hxp.kp j2 (by omega)
    refine owned_tuple hi1 ?_
    refine assign_pair hh hxp1 l j1 (fun p hp => ⟨hp, hfree p hp⟩) (by decide) (fun s2 ta tb' e2 l2 => ?_) hLe hk h2 h3
    refine wpAny_execs_cons ?_
    have h7i := h7 _ (List.getElem_mem hip)
    have j3' := j3.kp e2 (by omega) (fun p hp h => by have := j4 p hp; omega)
    have hkv : kvOf sw (ps.take (i + 1)) = kvOf sw (ps.take i) ++ [if sw then (ps[i].2, ps[i].1) else (ps[i].1, ps[i].2)] := by
      unfold kvOf
      rw [List.take_succ_eq_append_getElem hip, List.map_append]
      cases sw <;> rfl
    have done : ∀ s3 tb3, Kp (fun b => b = D ∨ ∃ k, (k, b) ∈ tb3) No s2 s3 → DDS (ledOf w) s3 D tb3 (kvOf sw (ps.take (i + 1))) → (∀ p ∈ tb3, p ∈ tb ∨ Above s2 p.2) →
        FillJ w s sw L D l ps it (i + 1) s3 ∧ At s3 it (IterO P (i + 1)) := by
      intro s3 tb3 e3 dd3 hnew
      have hi2 : At s2 it (IterO P (i + 1)) := hi1.kp e2 (by omega)
      have hab : ∀ p ∈ tb3, it < p.2 := fun p hp => by
        rcases hnew p hp with h | h
        · exact j4 p h
        · exact hi2.above h
      have hnp : ∀ b, (b = D ∨ ∃ k, (k, b) ∈ tb3) → D ≤ b := fun b hb => by
        rcases hb with h | ⟨k, h⟩
        · omega
        · have := hab _ h; dsimp only at this; omega
      refine ⟨⟨?_, ?_, tb3, dd3, hab⟩, ?_⟩
      · refine (vars_sub l2 fun p hp => by simp [hp]).kp e3 fun h => ?_
        have := hnp _ h; omega
      · exact (j2.trans (e2.mono (fun b _ _ h => .inl h) fun _ _ h => h)).trans (e3.mono (fun b _ _ h => .inr (hnp b h)) fun _ _ h => h)
      · refine hi2.kp e3 fun h => ?_
        rcases h with h | ⟨k, h⟩
        · omega
        · have := hab _ h; dsimp only at this; omega
    cases sw with
    | true =>
      simp only [if_true, Prod.mk.injEq] at hsw
      obtain ⟨rfl, rfl⟩ := hsw
      refine add_stmt l2 j3' hDs (by omega) h7i.2 h7i.1 (by simp [m1]) (.head _) (.tail _ (.head _)) (fun s3 tb3 e3 dd3 hnew => ?_) hLe hk h1 h3 h2 d1 (by decide) (by decide) hpos hi
      refine wpAny_execs_nil ?_
      exact done s3 tb3 e3 (by rw [hkv]; exact dd3) hnew
    | false =>
      simp only [Bool.false_eq_true, if_false, Prod.mk.injEq] at hsw
      obtain ⟨rfl, rfl⟩ := hsw
      refine add_stmt l2 j3' hDs (by omega) h7i.1 h7i.2 (by simp [m1]) (.tail _ (.head _)) (.head _) (fun s3 tb3 e3 dd3 hnew => ?_) hLe hk h1 h2 h3 d1 (by decide) (by decide) hpos hi
      refine wpAny_execs_nil ?_
      exact done s3 tb3 e3 (by rw [hkv]; exact dd3) hnew
  · obtain ⟨j1, j2, tb, j3, j4⟩ := J
    refine hQ s1 tb j1 j2 ?_ fun p hp => by have := j4 p hp; omega
    rw [show vs.length = ps.length from hlen, List.take_length] at j3
    exact j3
end
end Mine
end FillPart

section Lists3Part
open PySem PySem.W PyProof.Rows PySem.Calls
namespace Mine

section
variable {prog : Program} {w : World} {A : Around} {E : Value → Shared → Prop} {s : Shared} {env : Env} {vs : List Value}

theorem call_list_copy {l : Nat} {Q : Value → Shared → Prop} (hl : At s l (ListO vs)) (hsz : vs.length ≤ 1000)
    (hQ : ∀ s' D, Kp No No s s' → D = s.heap.objs.size → At s' D (ListO vs) → Q (.ref D) s') : wpAny (model prog w) A (call (.type "list") [.ref l]) Q E s := by
  obtain ⟨o, g, hc, hdi, n, hd⟩ := hl
  refine call_list_seq l (.inl rfl) g hc hd (fun h' c' hk hg => ?_) (by rw [List.size_toArray, sizeLine_eq]; omega)
  exact hQ _ _ (Kp.keeps (tk := s.toks) hk) rfl ⟨_, hg, rfl, rfl, c', rfl⟩

theorem call_append {l : Nat} {x : Value} {Q : Value → Shared → Prop} (hl : At s l (ListO vs)) (hsz : vs.length ≤ 1000)
    (hQ : ∀ s', Kp (· = l) No s s' → At s' l (ListO (vs ++ [x])) → Q .none s') : wpAny (model prog w) A (call (.builtin "list.append") [.ref l, x]) Q E s := by
  obtain ⟨o, g, hc, hdi, n, hd⟩ := hl
  refine list_append_plainL (its := vs.toArray) ⟨o, n, g, hc, hdi, hd⟩ (fun h' hp hs => ?_) (by rw [List.size_toArray, sizeLine_eq]; omega)
  obtain ⟨o', n', g', hc', hdi', hd'⟩ := hp
  exact hQ _ (Kp.same (tk := s.toks) hs) ⟨o', g', hc', hdi', n', by rw [hd']; simp⟩

/-- out.append(node) -/
theorem append_stmt {on xn : Str} {q1 q4 q5 q6 q7 : Pos} {L O : Nat} {x : Value} {l : List (Str × Value)} {Q : Flow → Shared → Prop}
    (hL : At s L (VarsO l)) (hO : At s O (ListO vs)) (hsz : vs.length ≤ 1000) (m1 : (on, .ref O) ∈ l) (m3 : (xn, x) ∈ l)
    (hQ : ∀ s', Kp (· = O) No s s' → At s' O (ListO (vs ++ [x])) → Q .next s')
    (hLe : env.locals = L := by rfl) (hk : env.scope.kind = .function := by rfl) (h1 : env.kindOf on = some .local := by rfl) (h3 : env.kindOf xn = some .local := by rfl)
    (d1 : (on == ("__debug__" : Str)) = false := by decide) (d3 : (xn == ("__debug__" : Str)) = false := by decide)
    (hpos : (q4.endLine == q6.line) = true := by rfl) (hi : interactive env = false := by rfl) :
    wpAny (model prog w) A (exec (.Expr (.Call (.Attribute (.Name on q1) "append" q4) [.Name xn q5] [] q6) q7) env) Q E s := by
  refine wpAny_Expr_any ?_ hi rfl
  refine wpAny_Call_method rfl rfl hpos F.plainAttrs_list F.slot_list_append F.type_list_append ?_
  refine ev_local hL m1 ?_ hLe hk h1 d1
  refine ⟨listO_typeIs hO, listO_noDict hO, ?_⟩
  refine PyProof.Rows.callWith_method1 ?_
  refine spliced_cons ?_
  refine ev_local hL m3 ?_ hLe hk h3 d3
  refine spliced_nil ?_
  exact call_append hO hsz hQ

theorem new_list {xs : List Value} {Q : Value → Shared → Prop} (hsz : xs.length ≤ 1000) (hQ : ∀ s' D, Kp No No s s' → D = s.heap.objs.size → At s' D (ListO xs) → Q (.ref D) s') : wpAny (model prog w) A (newList xs) Q E s := by
  refine wpAny_newObj_type (hQ _ _ (Kp.push (tk := s.toks)) rfl (At.push rfl ⟨rfl, rfl, 0, rfl⟩)) ?_
  show xs.toArray.size ≤ sizeLine
  rw [List.size_toArray, sizeLine_eq]; omega

end
end Mine
end Lists3Part

section SelPart
open PySem PySem.W PyProof.Rows PySem.Calls
namespace Mine

/-- no item that must come ahead of x is left -/
def rdy (kv : List (Nat × Nat)) (ks : List Nat) (x : Nat) : Bool := kv.all fun q => q.1 != x || !ks.contains q.2

theorem rdy_iff {kv : List (Nat × Nat)} {ks : List Nat} {x : Nat} : rdy kv ks x = true ↔ ∀ p, (x, p) ∈ kv → p ∉ ks := by
  unfold rdy
  rw [List.all_eq_true]
  constructor
  · intro h p hp hk
    have := h _ hp
    simp [hk] at this
  · rintro h ⟨a, b⟩ hq
    by_cases ha : a = x
    · subst ha
      have := h b hq
      simp [this]
    · simp [ha]

theorem disj_rdy {kv : List (Nat × Nat)} {ks ks' : List Nat} {x : Nat} (h : ∀ y, y ∈ ks' ↔ (x, y) ∈ kv) : decide (∀ k ∈ ks, k ∉ ks') = rdy kv ks x := by
  rw [Bool.eq_iff_iff, decide_eq_true_eq, rdy_iff]
  exact ⟨fun h1 p hp hk => h1 p hk ((h p).mpr hp), fun h1 k hk hk' => h1 k ((h k).mp hk') hk⟩

structure SelJ (w : World) (s0 : Shared) (L D O : Nat) (l : List (Str × Value)) (todo ks : List Nat) (tb kv : List (Nat × Nat)) (it i : Nat) (s1 : Shared) : Prop where
  vars : At s1 L (VarsO l)
  kp : Kp (fun b => b = L ∨ b = D ∨ b = O ∨ b = it) No s0 s1
  out : ∃ ws, At s1 O (ListO ws) ∧ NatsAre ws ((todo.take i).filter (rdy kv ks))
  dd : ∃ tb', DDS (ledOf w) s1 D tb' kv ∧ ∀ p ∈ tb', p ∈ tb ∨ it < p.2

section
variable {prog : Program} {w : World} {A : Around} {E : Value → Shared → Prop} {s : Shared} {env : Env}

theorem sel_loop {q1 q2 q3 q4 q5 q6 q7 q8 q9 q10 q11 q12 q13 q14 q15 : Pos} {L D O T S C : Nat} {todo ks : List Nat} {tb kv : List (Nat × Nat)} {led c : Bool} {l : List (Str × Value)} {vs : List Value} {Q : Flow → Shared → Prop} (hh : A.handled = none)
    (hL : At s L (VarsO l)) (hC : At s C (CellO (some (.ref S)))) (hS : At s S (SetO led c ks)) (hT : At s T (ListO vs)) (hv : NatsAre vs todo) (hO : At s O (ListO []))
    (hD : DDS (ledOf w) s D tb kv) (hDs : D ≠ sysModules) (h7 : ∀ x ∈ todo, x < 7) (hlen : todo.length ≤ 7)
    (n1 : T ≠ L ∧ T ≠ D ∧ T ≠ O) (n2 : S ≠ L ∧ S ≠ D ∧ S ≠ O) (n3 : C ≠ L ∧ C ≠ D ∧ C ≠ O) (n4 : L ≠ D ∧ L ≠ O ∧ D ≠ O) (n5 : ∀ p ∈ tb, p.2 ≠ L ∧ p.2 ≠ O ∧ p.2 ≠ S)
    (m1 : (Str.ofString "edges", .ref D) ∈ l) (m2 : (Str.ofString "todo", .ref T) ∈ l) (m3 : (Str.ofString "output", .ref O) ∈ l) (hfree : ∀ p ∈ l, p.1 ≠ "node")
    (hQ : ∀ s' tb' ws, At s' L (VarsO l) → Kp (fun b => b = L ∨ b = D ∨ b = O) No s s' → DDS (ledOf w) s' D tb' kv → (∀ p ∈ tb', p ∈ tb ∨ Above s p.2) → At s' O (ListO ws) → NatsAre ws (todo.filter (rdy kv ks)) → Q .next s')
    (hLe : env.locals = L := by rfl) (hk : env.scope.kind = .function := by rfl) (h1 : env.kindOf "edges" = some .local := by rfl) (h2 : env.kindOf "todo" = some .local := by rfl) (h3 : env.kindOf "output" = some .local := by rfl) (h4 : env.kindOf "node" = some .local := by rfl)
    (h5 : env.kindOf "todo_set" = some .cell := by rfl) (hcl : env.cells.lookup (Str.ofString "todo_set") = some C := by rfl)
    (hp1 : (q4.endLine == q8.line) = true := by rfl) (hp2 : (q10.endLine == q12.line) = true := by rfl) (hi : interactive env = false := by rfl) :
    wpAny (model prog w) A (exec (.For (.Name "node" q1) (.Name "todo" q2)
      [.If (.Call (.Attribute (.Name "todo_set" q3) "isdisjoint" q4) [.Subscript (.Name "edges" q5) (.Name "node" q6) q7] [] q8)
        [.Expr (.Call (.Attribute (.Name "output" q9) "append" q10) [.Name "node" q11] [] q12) q13] [] q14] [] q15) env) Q E s := by
  refine wpAny_For ?_
  refine ev_local hL m2 ?_ hLe hk h2
  have ltL := hL.lt; have ltC := hC.lt; have ltS := hS.lt; have ltT := hT.lt; have ltO := hO.lt; have ltD := hD.obj.lt
  refine loop_list hh hT (SelJ w s L D O l todo ks tb kv) (fun it s' hit e => ?_) (fun it i s1 s2 hit J e => ?_) (fun it i s1 hit J => ?_) (fun it i s1 v hit hiv hvv J hi1 => ?_) (fun it s1 hit J => ?_)
  · exact ⟨hL.kp e id, kp_no e, ⟨[], hO.kp e id, by simpa using NatsAre.nil⟩, tb, hD.kp e id (fun _ _ => id), fun p hp => .inl hp⟩
  · obtain ⟨j1, j2, ⟨ws, j3, j4⟩, tb', j5, j6⟩ := J
    refine ⟨j1.kp e (by omega), j2.trans (e.mono (fun b _ _ h => .inr (.inr (.inr h))) fun _ _ h => h), ⟨ws, j3.kp e (by omega), j4⟩, tb', j5.kp e (by omega) (fun p hp h => ?_), j6⟩
    rcases j6 p hp with h' | h'
    · have := hD.lt h'; omega
    · omega
  · exact hT.kp J.kp (by omega)
  · obtain ⟨j1, j2, ⟨ws, j3, j4⟩, tb', j5, j6⟩ := J
    have hit' : i < todo.length := by rw [← hv.length]; exact hiv
    obtain ⟨t, ht⟩ := hv.get (List.getElem?_eq_getElem hit')
    rw [ht] at hvv; cases hvv
    have h7i := h7 _ (List.getElem_mem hit')
    refine owned_name ?_
    refine wpAny_assign_Name ?_
    refine st_local l j1 (fun p hp => ⟨hp, hfree p hp⟩) (fun s2 e2 l2 => ?_) hLe hk h4
    have j2' := j2.trans (e2.mono (P' := fun b => b = L ∨ b = D ∨ b = O ∨ b = it) (fun b _ _ h => .inl h) fun _ _ h => h)
    have npL : ∀ p ∈ tb', p.2 ≠ L ∧ p.2 ≠ O ∧ p.2 ≠ it ∧ p.2 ≠ S := fun p hp => by
      rcases j6 p hp with h' | h'
      · have := hD.lt h'; have := n5 p h'; omega
      · omega
    have j3' := j3.kp e2 (by omega)
    have j5' := j5.kp e2 (by omega) (fun p hp h => (npL p hp).1 h)
    have i2 := hi1.kp e2 (by omega)
    refine wpAny_execs_cons ?_
    refine wpAny_If ?_
    refine wpAny_isTrue_value ?_
    refine wpAny_Call_method rfl rfl hp1 F.plainAttrs_set F.slot_set_isdisjoint F.type_set_isdisjoint ?_
    refine ev_cell (hC.kp j2' (by omega)) ?_ hcl hk h5
    have hS2 := hS.kp j2' (by omega)
    refine ⟨setO_typeIs hS2, setO_noDict hS2, ?_⟩
    refine PyProof.Rows.callWith_method1 ?_
    refine spliced_cons ?_
    refine Subscript_ ?_
    refine ev_local l2 (List.mem_cons_of_mem _ m1) ?_ hLe hk h1
    refine ev_local l2 (.head _) ?_ hLe hk h4
    refine tail_any (ddO_typeIs j5'.obj) slot_dd_getitem.lookup ?_ (by with_unfolding_all rfl)
    refine j5'.item h7i hDs fun s3 tb3 v3 e3 dd3 hv3 hnew => ?_
    obtain ⟨ks3, hset, hks3⟩ := dd3.sets _ hv3
    refine spliced_nil ?_
    have hab : ∀ p ∈ tb3, p ∈ tb ∨ it < p.2 := fun p hp => by
      rcases hnew p hp with h | h
      · exact j6 p h
      · exact .inr (i2.above h)
    have npS : S ≠ v3 := by
      rcases hab _ hv3 with h' | h'
      · have := n5 _ h'; dsimp only at this; omega
      · dsimp only at h'; omega
    refine call_isdisjoint (hS2.kp e3 (by omega)) hset npS ?_
    refine wpAny_truthy_bool ?_
    rw [disj_rdy hks3]
    have kp3 := j2'.trans (e3.mono (P' := fun b => b = L ∨ b = D ∨ b = O ∨ b = it) (fun b _ _ h => .inr (.inl h)) fun _ _ h => h)
    have htake : (todo.take (i + 1)).filter (rdy kv ks) = (todo.take i).filter (rdy kv ks) ++ (if rdy kv ks todo[i] then [todo[i]] else []) := by
      rw [List.take_succ_eq_append_getElem hit', List.filter_append]
      congr 1
      simp [List.filter_cons]
    have l3 := l2.kp e3 (by omega)
    have i3 := i2.kp e3 (by omega)
    have o3 := j3'.kp e3 (by omega)
    by_cases hr : rdy kv ks todo[i] = true
    · rw [if_pos hr]
      rw [if_pos hr] at htake
      refine wpAny_execs_cons ?_
      have hws : ws.length ≤ 1000 := by
        rw [j4.length]
        have h1 := List.length_filter_le (rdy kv ks) (todo.take i)
        have h2 := List.length_take_le i todo
        omega
      refine append_stmt l3 o3 hws (List.mem_cons_of_mem _ m3) (.head _) (fun s4 e4 o4 => ?_) hLe hk h3 h4 (by decide) (by decide) hp2 hi
      refine wpAny_execs_nil ?_
      refine wpAny_execs_nil ⟨⟨?_, ?_, ⟨_, o4, ?_⟩, tb3, ?_, hab⟩, i3.kp e4 (by omega)⟩
      · exact (vars_sub l3 fun p hp => by simp [hp]).kp e4 (by omega)
      · exact kp3.trans (e4.mono (fun b _ _ h => .inr (.inr (.inl h))) fun _ _ h => h)
      · rw [htake]; exact j4.snoc _ t
      · refine dd3.kp e4 (by omega) fun p hp h => ?_
        rcases hab p hp with h' | h'
        · have := n5 p h'; omega
        · omega
    · rw [if_neg hr]
      rw [if_neg hr] at htake
      refine wpAny_execs_nil ?_
      refine wpAny_execs_nil ⟨⟨vars_sub l3 fun p hp => by simp [hp], kp3, ⟨ws, o3, by rw [htake, List.append_nil]; exact j4⟩, tb3, dd3, hab⟩, i3⟩
  · obtain ⟨j1, j2, ⟨ws, j3, j4⟩, tb', j5, j6⟩ := J
    refine hQ s1 tb' ws j1 (j2.mono (fun b o g h => ?_) fun _ _ h => h) j5 (fun p hp => ?_) j3 ?_
    · have := get_lt g
      rcases h with h | h | h | h
      · exact .inl h
      · exact .inr (.inl h)
      · exact .inr (.inr h)
      · omega
    · rcases j6 p hp with h | h
      · exact .inl h
      · exact .inr fun b o g => by have := get_lt g; omega
    · rw [show vs.length = todo.length from hv.length, List.take_length] at j4
      exact j4
end
end Mine
end SelPart

section CompPart
open PySem PySem.W PyProof.Rows PySem.Calls
namespace Mine
section
variable {prog : Program} {w : World} {A : Around} {E : Value → Shared → Prop} {s : Shared} {env : Env}

abbrev tests (M : Model) (A : Around) (env : Env) (ifs : List Expr) (Q : Bool → Shared → Prop) (s : Shared) : Prop :=
  wpAny M A (forIn ifs true fun c r => if r = true then do let ok ← isTrue c env (eval c env); pure (ForInStep.yield ok) else pure (ForInStep.yield r)) Q noE s

theorem comp_turn {elt target iter : Expr} {ifs : List Expr} {scope : Scope} {pos : Pos} {it acc : Value} {R : Result → Shared → Prop} (I : Nat → Shared → Prop)
    (turn : ∀ n s, I n s → wpAny (model prog w) A (pyNext it) (fun r s₁ => match r with
      | none => R (.ok .next) s₁
      | some v => wpAny (model prog w) A (letOwnedTupleGo target it v) (fun _ s₁' => wpAny (model prog w) A (assign target env v) (fun _ s₂ => tests (model prog w) A env ifs (fun ok s₃ =>
            if ok = true then wpAny (model prog w) A (eval elt env) (fun x s₄ => wpAny (model prog w) A (call (.builtin "list.append") [acc, x]) (fun _ s₅ => ∃ m, m < n ∧ I m s₅) noE s₄) noE s₃
            else ∃ m, m < n ∧ I m s₃) s₂) noE s₁') noE s₁) noE s)
    (n : Nat) (h : I n s) : codeAny (model prog w) A (.compLoop (.ListComp elt [⟨target, iter, ifs, 0⟩] scope pos) 0 it acc env) R s := by
  refine codeAny_loop rfl I (fun n s hI => ?_) n h
  show wpAny _ A ((compTurn (.ListComp elt [⟨target, iter, ifs, 0⟩] scope pos) 0 it acc env).onRaise (fun x => do noteFrame x env; theTreesLotGoes x)) _ _ s
  refine wpAny_noted ?_
  rw [compTurn_list]
  refine wpAny_bind (wpAny_standAt (wpAny_bind (wpAny_mono (turn n s hI) (fun r s₁ h₁ => ?_) fun _ _ h' => h'.elim)))
  cases r with
  | none => exact wpAny_pure h₁
  | some v =>
    refine wpAny_bind (wpAny_mono h₁ (fun _ s₁' h₁' => ?_) fun _ _ h' => h'.elim)
    refine wpAny_bind (wpAny_mono h₁' (fun _ s₂ h₂ => wpAny_bind (wpAny_mono h₂ (fun ok s₃ h₃ => ?_) fun _ _ h' => h'.elim)) fun _ _ h' => h'.elim)
    cases ok with
    | false => exact wpAny_pure ⟨rfl, h₃⟩
    | true => exact wpAny_bind (wpAny_bind (wpAny_mono h₃ (fun x s₄ h₄ => wpAny_bind (wpAny_mono h₄ (fun _ s₅ h₅ => wpAny_pure (wpAny_pure ⟨rfl, h₅⟩)) fun _ _ h' => h'.elim)) fun _ _ h' => h'.elim))

/-- a comprehension over a list that no turn changes -/
theorem comp_list {elt target iter : Expr} {ifs : List Expr} {scope : Scope} {pos : Pos} {l it : Nat} {vs : List Value} {acc : Value} {R : Result → Shared → Prop} (hh : A.handled = none) (hi : At s it (IterO l 0)) (J : Nat → Shared → Prop)
    (h0 : J 0 s) (keep : ∀ i s1 s2, J i s1 → Kp (· = it) No s1 s2 → J i s2) (lst : ∀ i s1, J i s1 → At s1 l (ListO vs))
    (step : ∀ i s1 v, i < vs.length → vs[i]? = some v → J i s1 → At s1 it (IterO l (i + 1)) →
      wpAny (model prog w) A (letOwnedTupleGo target (.ref it) v) (fun _ s1' => wpAny (model prog w) A (assign target env v) (fun _ s2 => tests (model prog w) A env ifs (fun ok s3 =>
        if ok = true then wpAny (model prog w) A (eval elt env) (fun x s4 => wpAny (model prog w) A (call (.builtin "list.append") [acc, x]) (fun _ s5 => J (i + 1) s5 ∧ At s5 it (IterO l (i + 1))) noE s4) noE s3
        else J (i + 1) s3 ∧ At s3 it (IterO l (i + 1))) s2) noE s1') noE s1)
    (fin : ∀ s1, J vs.length s1 → R (.ok .next) s1) :
    codeAny (model prog w) A (.compStart (.ListComp elt [⟨target, iter, ifs, 0⟩] scope pos) 0 (.ref it) acc env) R s := by
  have go : codeAny (model prog w) A (.compLoop (.ListComp elt [⟨target, iter, ifs, 0⟩] scope pos) 0 (.ref it) acc env) R s := by
    refine comp_turn (fun n s' => ∃ i, i + n = vs.length ∧ J i s' ∧ At s' it (IterO l i)) (fun n s' ⟨i, hn, hJ, hi⟩ => ?_) vs.length ⟨0, by omega, h0, hi⟩
    have hlt := lst i s' hJ
    cases hv : vs[i]? with
    | none =>
      refine next_end hh hi hlt hv fun s2 e2 => ?_
      have : i = vs.length := by have := List.getElem?_eq_none_iff.mp hv; omega
      subst this
      exact fin s2 (keep _ s' s2 hJ e2)
    | some v =>
      have hiv : i < vs.length := (List.getElem?_eq_some_iff.mp hv).1
      refine next_item hi hlt hv fun s2 e2 i2 => ?_
      refine wpAny_mono (step i s2 v hiv hv (keep i s' s2 hJ e2) i2) (fun _ s3 h3 => wpAny_mono h3 (fun _ s4 h4 => wpAny_mono h4 (fun ok s5 h5 => ?_) fun _ _ h => h) fun _ _ h => h) fun _ _ h => h
      cases ok with
      | true =>
        rw [if_pos rfl] at h5 ⊢
        exact wpAny_mono h5 (fun x s6 h6 => wpAny_mono h6 (fun _ s7 h7 => ⟨n - 1, by omega, i + 1, by omega, h7⟩) fun _ _ h => h) fun _ _ h => h
      | false =>
        rw [if_neg Bool.false_ne_true] at h5 ⊢
        exact ⟨n - 1, by omega, i + 1, by omega, h5⟩
  exact codeAny_compStart_list go (wpAny_pyIter_listiter hi go)

/-- the comprehension's own list and frame -/
theorem comp_block {elt : Expr} {g : Comprehension} {scope : Scope} {pos : Pos} {cl : List (Str × Addr)} {it : Value} {R : Value → Nat → Result → Shared → Prop}
    (hkind : scope.kind = .function) (hcell : ∀ y ∈ scope.names, y.2 ≠ .cell)
    (h : ∀ s4 D C, Kp No No s s4 → Above s D → D < C → At s4 D (ListO []) → At s4 C (VarsO []) →
      codeAny (model prog w) A (.compStart (.ListComp elt [g] scope pos) 0 it (.ref D) (compEnvC scope cl C env)) (R (.ref D) C) s4) :
    wpAny (model prog w) A (newList []) (fun acc s₃ => wpAny (model prog w) A (newFunctionEnv scope env.globals cl [] env.qual none .none (some env)) (fun cenv s₄ =>
        codeAny (model prog w) A (.compStart (.ListComp elt [g] scope pos) 0 it acc { cenv with scope := relabel scope env }) (R acc cenv.locals) s₄) E s₃) E s := by
  refine new_list (by simp) fun s3 D e3 hD d3 => ?_
  have hlt := d3.lt
  refine wpAny_newFunctionEnv hcell (by intro y hy; simp at hy) (fun h' hn hsb => ?_) hkind
  have e4 : Kp No No s3 { s3 with heap := h', toks := s3.toks + 0 } := Kp.keeps fun b o hb => by
    have hne : b ≠ s3.heap.objs.size := Nat.ne_of_lt (Heap.lt_size hb)
    rw [hsb.2 b hne]; exact Heap.get?_push_of_some _ hb
  exact h _ D s3.heap.objs.size (e3.trans e4) (above_le (Nat.le_of_eq hD.symm)) hlt (d3.kp e4 id) (vars_of hn fun p hp => by simp at hp)

theorem comp_open {elt : Expr} {g : Comprehension} {scope : Scope} {pos : Pos} {cl : List (Str × Addr)} {Q : Value → Shared → Prop}
    (hclos : closureFor scope env = pure cl) (hkind : scope.kind = .function) (hnames : ∀ x ∈ scope.names, x.2 = .local → scope.names.lookup x.1 = some .local) (hcell : ∀ y ∈ scope.names, y.2 ≠ .cell) (ha : g.is_async = 0)
    (hs : ∀ x, foldedSetIterable g.iter env x = pure x)
    (h : wpAny (model prog w) A (eval g.iter env) (fun x s₁ => wpAny (model prog w) A (pyIter x) (fun it s₂ => ∀ s4 D C, Kp No No s₂ s4 → Above s₂ D → D < C → At s4 D (ListO []) → At s4 C (VarsO []) →
      codeAny (model prog w) A (.compStart (.ListComp elt [g] scope pos) 0 it (.ref D) (compEnvC scope cl C env)) (fun r s5 => (∃ f, r = .ok f) ∧ At s5 C (VarsO []) ∧ ∀ s6, Kp (· = C) No s5 s6 → Q (.ref D) s6) s4) noE s₁) noE s) :
    wpAny (model prog w) A (eval (.ListComp elt [g] scope pos) env) Q E s := by
  rw [eval_ListComp]
  have ha' : firstAsync [g] = false := by
    obtain ⟨t, i, f, a⟩ := g
    subst ha; rfl
  rw [ha']
  obtain ⟨t, i, f, a⟩ := g
  refine wpAny_comprehension_free (cl := cl) rfl hs hclos hkind hnames ?_
  refine wpAny_mono h (fun x s1 h1 => wpAny_mono h1 (fun it s2 h2 => ?_) fun _ _ h => h.elim) fun _ _ h => h.elim
  refine comp_block (R := fun acc C => compPost (model prog w) A E none Q acc C) hkind hcell fun s4 D C e4 hD hDC d4 c4 => ?_
  refine codeAny_mono (h2 s4 D C e4 hD hDC d4 c4) fun r s5 h5 => ?_
  obtain ⟨⟨f, rfl⟩, h5, h6⟩ := h5
  obtain ⟨m, hm, _⟩ := vars_ns h5
  exact ⟨m, hm, fun h' hs => h6 _ (Kp.same hs)⟩

theorem comp_store {elt : Expr} {g : Comprehension} {scope : Scope} {y : Str} {py pos spos : Pos} {cl : List (Str × Addr)} {L : Nat} {l : List (Str × Value)} {Q : Flow → Shared → Prop} (l' : List (Str × Value))
    (hsw : swapsWith (.ListComp elt [g] scope pos) (some (.Name y py)) spos.line env = pure true)
    (hclos : closureFor scope env = pure cl) (hkind : scope.kind = .function) (hnames : ∀ x ∈ scope.names, x.2 = .local → scope.names.lookup x.1 = some .local) (hcell : ∀ y ∈ scope.names, y.2 ≠ .cell) (ha : g.is_async = 0)
    (hs : ∀ x, foldedSetIterable g.iter env x = pure x) (hl' : ∀ p ∈ l', p ∈ l ∧ p.1 ≠ y)
    (h : wpAny (model prog w) A (eval g.iter env) (fun x s₁ => wpAny (model prog w) A (pyIter x) (fun it s₂ => ∀ s4 D C, Kp No No s₂ s4 → Above s₂ D → D < C → At s4 D (ListO []) → At s4 C (VarsO []) →
      codeAny (model prog w) A (.compStart (.ListComp elt [g] scope pos) 0 it (.ref D) (compEnvC scope cl C env)) (fun r s5 => (∃ f, r = .ok f) ∧ L ≠ C ∧ At s5 C (VarsO []) ∧ At s5 L (VarsO l) ∧
        ∀ s6, Kp (fun b => b = C ∨ b = L) No s5 s6 → At s6 L (VarsO ((y, .ref D) :: l')) → Q .next s6) s4) noE s₁) noE s)
    (hLe : env.locals = L := by rfl) (hk : env.scope.kind = .function := by rfl) (hy : env.kindOf y = some .local := by rfl) :
    wpAny (model prog w) A (exec (.Assign [.Name y py] (.ListComp elt [g] scope pos) spos) env) Q E s := by
  rw [exec_Assign_Name_used _ _ _ _ hsw]
  have ha' : firstAsync [g] = false := by
    obtain ⟨t, i, f, a⟩ := g
    subst ha; rfl
  refine wpAny_bind (wpAny_standAt (wpAny_bind ?_))
  rw [arm_evalThenUse_ListComp, ha']
  obtain ⟨t, i, f, a⟩ := g
  refine wpAny_bind (wpAny_mono (wpAny_comprehension_free (use := some (assign (.Name y py) env)) (Q := fun _ s' => Q .next s') (cl := cl) rfl hs hclos hkind hnames ?_) (fun _ s' hq => wpAny_pure (wpAny_pure hq)) fun _ _ h => h)
  refine wpAny_mono h (fun x s1 h1 => wpAny_mono h1 (fun it s2 h2 => ?_) fun _ _ h => h.elim) fun _ _ h => h.elim
  refine comp_block (R := fun acc C => compPost (model prog w) A E (some (assign (.Name y py) env)) (fun _ s' => Q .next s') acc C) hkind hcell fun s4 D C e4 hD hDC d4 c4 => ?_
  refine codeAny_mono (h2 s4 D C e4 hD hDC d4 c4) fun r s5 h5 => ?_
  obtain ⟨⟨f, rfl⟩, hne, h5, h6, h7⟩ := h5
  show wpAny _ A (assign (.Name y py) env (.ref D)) _ _ s5
  refine wpAny_assign_Name ?_
  refine st_local l' h6 hl' (fun s6 e6 l6 => ?_) hLe hk hy
  obtain ⟨m, hm, _⟩ := vars_ns (h5.kp e6 (Ne.symm hne))
  refine ⟨m, hm, fun h' hs' => h7 _ ?_ ?_⟩
  · exact (e6.mono (fun b _ _ h => .inr h) fun _ _ h => h).trans ((Kp.same hs').mono (fun b _ _ h => .inl h) fun _ _ h => h)
  · exact l6.kp (D := No) (Kp.same (tk := s6.toks) hs') hne
end
end Mine
end CompPart

section FiltPart
open PySem PySem.W PyProof.Rows PySem.Calls
namespace Mine

def filtScope : Scope := { kind := .function, names := [(Str.ofString ".0", .local), (Str.ofString "t", .local), (Str.ofString "todo_set", .free)], isGenerator := false, isCoroutine := false, more := [] }

structure FiltJ (s0 : Shared) (D C : Nat) (todo ks : List Nat) (it i : Nat) (s1 : Shared) : Prop where
  vars : At s1 C (VarsO [])
  kp : Kp (fun b => b = D ∨ b = C ∨ b = it) No s0 s1
  out : ∃ ws, At s1 D (ListO ws) ∧ NatsAre ws ((todo.take i).filter fun x => decide (x ∈ ks))

section
variable {prog : Program} {w : World} {A : Around} {E : Value → Shared → Prop} {s : Shared} {env : Env}

theorem filt_stmt {p1 p2 p3 p4 p5 p6 p7 pos spos : Pos} {L T S C : Nat} {todo ks : List Nat} {led c : Bool} {l : List (Str × Value)} {vs : List Value} {Q : Flow → Shared → Prop} (l' : List (Str × Value)) (hh : A.handled = none)
    (hL : At s L (VarsO l)) (hC : At s C (CellO (some (.ref S)))) (hS : At s S (SetO led c ks)) (hT : At s T (ListO vs)) (hv : NatsAre vs todo) (hlen : todo.length ≤ 7)
    (m2 : (Str.ofString "todo", .ref T) ∈ l) (hl' : ∀ p ∈ l', p ∈ l ∧ p.1 ≠ Str.ofString "todo")
    (hQ : ∀ s' T' ws, Kp (· = L) No s s' → Above s T' → At s' L (VarsO ((Str.ofString "todo", .ref T') :: l')) → At s' T' (ListO ws) → NatsAre ws (todo.filter fun x => decide (x ∈ ks)) → Q .next s')
    (hclos : closureFor filtScope env = pure [(Str.ofString "todo_set", C)])
    (hsw : swapsWith (.ListComp (.Name "t" p2) [⟨.Name "t" p3, .Name "todo" p4, [.Compare (.Name "t" p5) [.In] [.Name "todo_set" p6] p7], 0⟩] filtScope pos) (some (.Name "todo" p1)) spos.line env = pure true)
    (hLe : env.locals = L := by rfl) (hk : env.scope.kind = .function := by rfl) (h2 : env.kindOf "todo" = some .local := by rfl) (h5 : env.kindOf "todo_set" = some .cell := by rfl) :
    wpAny (model prog w) A (exec (.Assign [.Name "todo" p1] (.ListComp (.Name "t" p2) [⟨.Name "t" p3, .Name "todo" p4, [.Compare (.Name "t" p5) [.In] [.Name "todo_set" p6] p7], 0⟩] filtScope pos) spos) env) Q E s := by
  have hrel : (compEnvC filtScope [(Str.ofString "todo_set", C)] 0 env).scope = { filtScope with names := [(Str.ofString ".0", .local), (Str.ofString "t", .local), (Str.ofString "todo_set", .cell)] } := by
    have h5' : env.kindOf (Str.ofString "todo_set") = some .cell := h5
    simp [compEnvC, relabel, filtScope, hk, h5']
  have hrel' : ∀ c, (compEnvC filtScope [(Str.ofString "todo_set", C)] c env).scope = { filtScope with names := [(Str.ofString ".0", .local), (Str.ofString "t", .local), (Str.ofString "todo_set", .cell)] } := fun c => hrel
  refine comp_store (L := L) (l := l) l' hsw hclos rfl (by decide) (by decide) rfl (fun _ => rfl) hl' ?_ hLe hk h2
  refine ev_local hL m2 ?_ hLe hk h2
  refine iter_list hT fun s2 it e2 hit i2 => ?_
  intro s4 D K e4 hD hDK d4 k4
  have hitlt := i2.above hD
  have ltT := hT.lt; have ltL := hL.lt; have ltC := hC.lt; have ltS := hS.lt
  have e04 : Kp No No s s4 := e2.trans e4
  have hi4 := i2.kp e4 id
  refine comp_list (l := T) (vs := vs) hh hi4 (FiltJ s4 D K todo ks it) ?_ ?_ ?_ ?_ ?_
  · exact ⟨k4, Kp.refl s4, [], d4, by simpa using NatsAre.nil⟩
  · intro i s5 s6 ⟨j1, j2, ws, j3, j4⟩ e
    exact ⟨j1.kp e (by omega), j2.trans (e.mono (fun b _ _ h => .inr (.inr h)) fun _ _ h => h), ws, j3.kp e (by omega), j4⟩
  · intro i s5 J
    exact (hT.kp e04 id).kp J.kp (by omega)
  · intro i s5 v hiv hvv ⟨j1, j2, ws, j3, j4⟩ hi5
    have hit' : i < todo.length := by rw [← hv.length]; exact hiv
    obtain ⟨t, ht⟩ := hv.get (List.getElem?_eq_getElem hit')
    rw [ht] at hvv; cases hvv
    refine owned_name ?_
    refine wpAny_assign_Name ?_
    refine st_local [] j1 (by simp) (fun s6 e6 l6 => ?_) rfl (by rw [hrel']; rfl) (by unfold Env.kindOf; rw [hrel']; rfl)
    have j2' := j2.trans (e6.mono (P' := fun b => b = D ∨ b = K ∨ b = it) (fun b _ _ h => .inr (.inl h)) fun _ _ h => h)
    have hi6 := hi5.kp e6 (by omega)
    have d6 := j3.kp e6 (by omega)
    have htake : (todo.take (i + 1)).filter (fun x => decide (x ∈ ks)) = (todo.take i).filter (fun x => decide (x ∈ ks)) ++ (if decide (todo[i] ∈ ks) then [todo[i]] else []) := by
      rw [List.take_succ_eq_append_getElem hit', List.filter_append]
      congr 1
      simp [List.filter_cons]
    show wpAny _ A (forIn [_] true _) _ _ s6
    rw [List.forIn_cons]
    refine wpAny_bind ?_
    rw [if_pos rfl]
    refine wpAny_bind ?_
    refine wpAny_isTrue_Compare1 ?_
    refine ev_local l6 (.head _) ?_ rfl (by rw [hrel']; rfl) (by unfold Env.kindOf; rw [hrel']; rfl)
    refine ev_cell ((hC.kp e04 id).kp j2' (by omega)) ?_ rfl (by rw [hrel']; rfl) (by unfold Env.kindOf; rw [hrel']; rfl)
    refine in_set ((hS.kp e04 id).kp j2' (by omega)) fun s7 e7 => ?_
    refine wpAny_truthy_bool ?_
    refine wpAny_pure ?_
    show wpAny _ A (pure _) _ _ s7
    refine wpAny_pure ?_
    have l7 := l6.kp e7 id
    have d7 := d6.kp e7 id
    have k7 := j2'.trans (kp_no (P := fun b => b = D ∨ b = K ∨ b = it) (D := No) e7)
    by_cases hm : todo[i] ∈ ks
    · rw [if_pos (by simpa using hm)]
      rw [if_pos (by simpa using hm)] at htake
      refine ev_local l7 (.head _) ?_ rfl (by rw [hrel']; rfl) (by unfold Env.kindOf; rw [hrel']; rfl)
      have hws : ws.length ≤ 1000 := by
        rw [j4.length]
        have h1 := List.length_filter_le (fun x => decide (x ∈ ks)) (todo.take i)
        have h2 := List.length_take_le i todo
        omega
      refine call_append d7 hws fun s8 e8 d8 => ?_
      refine ⟨⟨(vars_sub l7 (by simp)).kp e8 (by omega), k7.trans (e8.mono (fun b _ _ h => .inl h) fun _ _ h => h), _, d8, ?_⟩, (hi6.kp e7 id).kp e8 (by omega)⟩
      rw [htake]; exact j4.snoc _ t
    · rw [if_neg (by simpa using hm)]
      rw [if_neg (by simpa using hm)] at htake
      exact ⟨⟨vars_sub l7 (by simp), k7, ws, d7, by rw [htake, List.append_nil]; exact j4⟩, hi6.kp e7 id⟩
  · intro s5 ⟨j1, j2, ws, j3, j4⟩
    refine ⟨⟨_, rfl⟩, by omega, j1, (hL.kp e04 id).kp j2 (by omega), fun s6 e6 l6 => ?_⟩
    refine hQ s6 D ws ?_ (fun b o g => hD b o (e2.keep b o id g)) l6 (j3.kp e6 (by omega)) ?_
    · have j2' := j2.mono (P' := fun b => b = L ∨ b = D ∨ b = K ∨ b = it) (D' := No) (fun b _ _ h => .inr h) fun _ _ h => h
      have e6' := e6.mono (P' := fun b => b = L ∨ b = D ∨ b = K ∨ b = it) (D' := No) (fun b _ _ h => by omega) fun _ _ h => h
      refine kp_new e04 (j2'.trans e6') fun b o g h => ?_
      have := get_lt g
      omega
    · rw [show vs.length = todo.length from hv.length, List.take_length] at j4
      exact j4
end
end Mine
end FiltPart

section GenDPart
open PySem PySem.W PyProof.Rows PySem.Calls
namespace Mine

/-- nothing lies there yet -/
def New (s : Shared) (b : Nat) : Prop := s.heap.get? b = none ∧ 88 ≤ b
def Live (s : Shared) (b : Nat) : Prop := ∃ o, s.heap.get? b = some o
theorem Live.lt {s b} (h : Live s b) : b < s.heap.objs.size := let ⟨_, e⟩ := h; get_lt e
theorem Live.kp {s s' b P D} (h : Live s b) (k : Kp P D s s') (hp : ¬ P b) : Live s' b := let ⟨o, e⟩ := h; ⟨o, k.keep b o hp e⟩
theorem At.live {s a φ} (h : At s a φ) : Live s a := let ⟨o, e, _⟩ := h; ⟨o, e⟩
theorem New.of_above {s : Shared} {b : Nat} (h : Above s b) (h8 : 88 ≤ b) : New s b :=
  ⟨by
    cases e : s.heap.get? b with
    | none => rfl
    | some o => exact absurd (h b o e) (Nat.lt_irrefl _), h8⟩
theorem New.ne {s : Shared} {a b : Nat} {φ} (h : New s b) (g : At s a φ) : a ≠ b := by
  rintro rfl
  obtain ⟨o, e, _⟩ := g
  rw [h.1] at e; cases e
theorem New.kp {s s' : Shared} {P D} {b : Nat} (h : New s' b) (k : Kp P D s s') : P b ∨ New s b := by
  by_cases hp : P b
  · exact .inl hp
  · refine .inr ⟨?_, h.2⟩
    cases e : s.heap.get? b with
    | none => rfl
    | some o => have := k.keep b o hp e; rw [h.1] at this; cases this

/-- s' has what a sleeping generator leans on -/
structure Held (w : World) (V G : Nat → Prop) (s s' : Shared) : Prop where
  base : Bs w s'.heap
  heap : ∀ (b : Nat) o, V b → s.heap.get? b = some o → s'.heap.get? b = some o
  gens : ∀ (i : Nat) x, G i → s.gens[i]? = some x → s'.gens[i]? = some x
  size : s.gens.size ≤ s'.gens.size

/-- where a generator may be woken -/
structure Fit (d : Nat) (A : Around) : Prop where
  handled : A.handled = none
  depth : A.depth + d < recursionLimit

/-- a generator that yields just these items, and then returns; R: what it reads, V: what it writes, G: the generators it drives -/
def GenDoes {α : Type} (prog : Program) (w : World) (d : Nat) (item : α → Value → (Nat → Prop) → Shared → Shared → Prop) : List α → GenState → (R V G : Nat → Prop) → Shared → Prop
  | [], gs, R, V, G, s => ∀ A s', Fit d A → Held w (fun b => R b ∨ V b) G s s' → Woke (model prog w) A (fun e s1 => e = .ret (.ok (.ret .none)) ∧ Kp V G s' s1) gs s'
  | x :: xs, gs, R, V, G, s => ∀ A s', Fit d A → Held w (fun b => R b ∨ V b) G s s' → Woke (model prog w) A (fun e s1 => ∃ v, e.result = .yielded v ∧ e.quiet = true ∧ Kp V G s' s1 ∧ ∃ V' G' : Nat → Prop,
      (∀ b, V' b → V b ∨ New s' b) ∧ (∀ b, V' b → Live s1 b) ∧ (∀ i, G' i → G i ∨ s'.gens.size ≤ i) ∧ item x v V' s' s1 ∧ GenDoes prog w d item xs e.genState R V' G' s1) gs s'

section
variable {α : Type} {prog : Program} {w : World} {d : Nat} {item : α → Value → (Nat → Prop) → Shared → Shared → Prop} {xs : List α} {gs : GenState} {R V G : Nat → Prop} {s : Shared}

theorem Held.from {V G : Nat → Prop} {s s2 s' : Shared} (h : Held w V G s2 s') (k1 : ∀ (b : Nat) o, V b → s.heap.get? b = some o → s2.heap.get? b = some o) (k2 : ∀ (i : Nat) x, G i → s.gens[i]? = some x → s2.gens[i]? = some x) (k3 : s.gens.size ≤ s2.gens.size) : Held w V G s s' :=
  ⟨h.base, fun b o hb e => h.heap b o hb (k1 b o hb e), fun i x hi e => h.gens i x hi (k2 i x hi e), Nat.le_trans k3 h.size⟩

theorem GenDoes.on {s2 : Shared} (h : GenDoes prog w d item xs gs R V G s) (k1 : ∀ (b : Nat) o, (R b ∨ V b) → s.heap.get? b = some o → s2.heap.get? b = some o) (k2 : ∀ (i : Nat) x, G i → s.gens[i]? = some x → s2.gens[i]? = some x) (k3 : s.gens.size ≤ s2.gens.size) :
    GenDoes prog w d item xs gs R V G s2 := by
  cases xs with
  | nil => exact fun A s' hA hs => h A s' hA (hs.from k1 k2 k3)
  | cons x xs => exact fun A s' hA hs => h A s' hA (hs.from k1 k2 k3)

theorem GenDoes.kp {s2 : Shared} {P D : Nat → Prop} (h : GenDoes prog w d item xs gs R V G s) (e : Kp P D s s2) (hp : ∀ b, P b → ¬ R b ∧ ¬ V b) (hd : ∀ i, D i → ¬ G i) : GenDoes prog w d item xs gs R V G s2 :=
  h.on (fun b o hb g => e.keep b o (fun hq => by have := hp b hq; rcases hb with hb | hb; exact this.1 hb; exact this.2 hb) g) (fun i x hi g => e.gkeep i x (fun hq => hd i hq hi) g) e.gsz

variable {A : Around} {E : Value → Shared → Prop}

/-- the next item -/
theorem GenDoes.next {x : α} {a g : Nat} {Q : Option Value → Shared → Prop} (h : GenDoes prog w d item (x :: xs) gs R V G s) (hA : Fit d A) (B : Bs w s.heap)
    (hg : At s a (GenO g)) (hgs : s.gens[g]? = some gs) (hG : ¬ G g)
    (hi : ∀ v V' s1 s2 s3 s4, item x v V' s1 s2 → s3.heap = s1.heap → s4.heap = s2.heap → item x v V' s3 s4)
    (hQ : ∀ v s' gs' V' G', Kp V (fun i => G i ∨ i = g) s s' → s'.gens[g]? = some gs' → (∀ b, V' b → V b ∨ New s b) → (∀ b, V' b → Live s' b) → (∀ i, G' i → (G i ∨ s.gens.size ≤ i) ∧ i ≠ g) → item x v V' s s' → GenDoes prog w d item xs gs' R V' G' s' → Q (some v) s') :
    wpAny (model prog w) A (pyNext (.ref a)) Q E s := by
  have hlt : g < s.gens.size := (Array.getElem?_eq_some_iff.mp hgs).1
  refine next_gen hA.handled B.nolimit (by have := hA.depth; omega) (gen_is hg) hgs (h A.in1 (s.setGen g .running) ⟨hA.handled, hA.depth⟩ ⟨B, fun b o _ e => e, fun i y hi e => ?_, by show _ ≤ (s.gens.setIfInBounds g _).size; simp⟩) fun e s₁ he => .inr ?_
  · rw [setGen_other (fun h => hG (by subst h; exact hi))]; exact e
  · obtain ⟨v, hv, hqu, hkp, V', G', hV', hlv, hG', hit, hnext⟩ := he
    refine ⟨v, hv, hqu, ?_⟩
    have hsz : (s.setGen g .running).gens.size = s.gens.size := by show (s.gens.setIfInBounds g _).size = _; simp
    have hg1 : ∃ y, s₁.gens[g]? = some y := by
      have : g < s₁.gens.size := Nat.lt_of_lt_of_le (by rw [hsz]; exact hlt) hkp.gsz
      exact ⟨_, Array.getElem?_eq_getElem this⟩
    obtain ⟨y, hy⟩ := hg1
    have k0 : Kp V (fun i => G i ∨ i = g) s (s.setGen g .running) := Kp.setGen rfl (.inr rfl)
    have k1 := k0.trans (hkp.mono (P' := V) (D' := fun i => G i ∨ i = g) (fun _ _ _ h => h) fun _ _ h => .inl h)
    have k2 : Kp V (fun i => G i ∨ i = g) s₁ (s₁.setGen g e.genState) := Kp.setGen (End.bare_of_quiet hqu) (.inr rfl)
    have hGg : ∀ i, G' i → (G i ∨ s.gens.size ≤ i) ∧ i ≠ g := fun i hi => by
      have h1 := hG' i hi
      rw [hsz] at h1
      refine ⟨h1, fun h2 => ?_⟩
      subst h2
      rcases h1 with h1 | h1
      · exact hG h1
      · omega
    refine hQ v _ _ V' G' (k1.trans k2) (setGen_self hy) (fun b hb => hV' b hb) (fun b hb => hlv b hb) hGg (hi v V' _ _ _ _ hit rfl rfl) ?_
    refine hnext.on (fun b o _ e => e) (fun i z hi e => ?_) (by show _ ≤ (s₁.gens.setIfInBounds g _).size; simp)
    rw [setGen_other (hGg i hi).2]; exact e

theorem GenDoes.stop {a g : Nat} {Q : Option Value → Shared → Prop} (h : GenDoes prog w d item [] gs R V G s) (hA : Fit d A) (B : Bs w s.heap)
    (hg : At s a (GenO g)) (hgs : s.gens[g]? = some gs) (hG : ¬ G g)
    (hQ : ∀ s', Kp V (fun i => G i ∨ i = g) s s' → Q none s') :
    wpAny (model prog w) A (pyNext (.ref a)) Q E s := by
  refine next_gen hA.handled B.nolimit (by have := hA.depth; omega) (gen_is hg) hgs (h A.in1 (s.setGen g .running) ⟨hA.handled, hA.depth⟩ ⟨B, fun b o _ e => e, fun i y hi e => ?_, by show _ ≤ (s.gens.setIfInBounds g _).size; simp⟩) fun e s₁ he => .inl ?_
  · rw [setGen_other (fun h => hG (by subst h; exact hi))]; exact e
  · obtain ⟨rfl, hkp⟩ := he
    refine ⟨rfl, fun s' e' => hQ s' ?_⟩
    have k0 : Kp V (fun i => G i ∨ i = g) s (s.setGen g .running) := Kp.setGen rfl (.inr rfl)
    have k1 := k0.trans (hkp.mono (P' := V) (D' := fun i => G i ∨ i = g) (fun _ _ _ h => h) fun _ _ h => .inl h)
    have k2 : Kp V (fun i => G i ∨ i = g) s₁ (s₁.setGen g .finished) := Kp.setGen rfl (.inr rfl)
    exact (k1.trans k2).trans (e'.mono (fun _ _ _ h => h.elim) fun _ _ h => h.elim)
end
end Mine
end GenDPart

section PeelPart
open PySem PySem.W PyProof.Rows PySem.Calls
namespace Mine

/-- the layers -/
def peel (kv : List (Nat × Nat)) : Nat → List Nat → List (List Nat)
  | 0, _ => []
  | n + 1, todo => if todo = [] then [] else todo.filter (rdy kv todo) :: peel kv n (todo.filter fun x => ! rdy kv todo x)

def Acy (kv : List (Nat × Nat)) : Prop := ∃ r : Nat → Nat, ∀ q ∈ kv, r q.2 < r q.1

theorem rdy_congr {kv : List (Nat × Nat)} {ks ks' : List Nat} (h : ∀ x, x ∈ ks ↔ x ∈ ks') : rdy kv ks = rdy kv ks' := by
  funext x
  rw [Bool.eq_iff_iff, rdy_iff, rdy_iff]
  exact ⟨fun H p hp hk => H p hp ((h p).mpr hk), fun H p hp hk => H p hp ((h p).mp hk)⟩

theorem rdy_some {kv : List (Nat × Nat)} (ha : Acy kv) {todo : List Nat} (hne : todo ≠ []) : ∃ x ∈ todo, rdy kv todo x = true := by
  obtain ⟨r, hr⟩ := ha
  have key : ∀ n, ∀ x ∈ todo, r x ≤ n → ∃ x ∈ todo, rdy kv todo x = true := by
    intro n
    induction n with
    | zero =>
      intro x hx h0
      refine ⟨x, hx, rdy_iff.mpr fun p hp hm => ?_⟩
      have := hr _ hp
      dsimp only at this; omega
    | succ n ih =>
      intro x hx hn
      by_cases h : rdy kv todo x = true
      · exact ⟨x, hx, h⟩
      · have h' : ¬ ∀ p, (x, p) ∈ kv → p ∉ todo := fun H => h (rdy_iff.mpr H)
        obtain ⟨p, hp⟩ := Classical.not_forall.mp h'
        obtain ⟨hp, hm⟩ := Classical.not_imp.mp hp
        have hm := Classical.not_not.mp hm
        have := hr _ hp
        dsimp only at this
        exact ih p hm (by omega)
  obtain ⟨x, hx⟩ := List.exists_mem_of_ne_nil todo hne
  exact key _ x hx (Nat.le_refl _)

theorem filter_shorter {l : List Nat} {p : Nat → Bool} {x : Nat} (hx : x ∈ l) (hp : p x = true) : (l.filter fun y => ! p y).length < l.length := by
  have h1 : l.length = (l.filter p).length + (l.filter fun y => ! p y).length := by
    clear hx
    induction l with
    | nil => rfl
    | cons a l ih =>
      simp only [List.filter_cons]
      cases h : p a <;> simp <;> omega
  have h2 : 0 < (l.filter p).length := List.length_pos_of_mem (List.mem_filter.mpr ⟨hx, hp⟩)
  omega

structure SubInv (w : World) (s : Shared) (L S T D : Nat) (tb kv : List (Nat × Nat)) (todo : List Nat) : Prop where
  vars : At s L (VarsO [(Str.ofString "edges", .ref D), (Str.ofString "todo", .ref T)])
  cell : At s (L + 1) (CellO (some (.ref S)))
  set : ∃ c ks, At s S (SetO (ledOf w) c ks) ∧ ∀ x, x ∈ ks ↔ x ∈ todo
  lst : ∃ vs, At s T (ListO vs) ∧ NatsAre vs todo
  dd : DDS (ledOf w) s D tb kv
  small : ∀ x ∈ todo, x < 7
  len : todo.length ≤ 7
  nT : T ≠ L ∧ T ≠ L + 1 ∧ T ≠ D ∧ T ≠ S
  nS : S ≠ L ∧ S ≠ L + 1 ∧ S ≠ D
  nD : D ≠ L ∧ D ≠ L + 1 ∧ 88 ≤ D
  nt : ∀ p ∈ tb, p.2 ≠ L ∧ p.2 ≠ L + 1 ∧ p.2 ≠ S ∧ p.2 ≠ T

def subV (L S T D : Nat) (tb : List (Nat × Nat)) (b : Nat) : Prop := b = L ∨ b = L + 1 ∨ b = S ∨ b = T ∨ b = D ∨ ∃ k, (k, b) ∈ tb

theorem SubInv.on {w s s' L S T D tb kv todo} (x : SubInv w s L S T D tb kv todo) (h : ∀ b o, subV L S T D tb b → s.heap.get? b = some o → s'.heap.get? b = some o) : SubInv w s' L S T D tb kv todo := by
  have k : ∀ {a : Nat} {φ}, subV L S T D tb a → At s a φ → At s' a φ := fun ha ⟨o, g, r⟩ => ⟨o, h _ _ ha g, r⟩
  obtain ⟨a1, a2, ⟨c, ks, a3, a4⟩, ⟨vs, a5, a6⟩, a7, a8, a9, b1, b2, b3, b4⟩ := x
  refine ⟨k (.inl rfl) a1, k (.inr (.inl rfl)) a2, ⟨c, ks, k (.inr (.inr (.inl rfl))) a3, a4⟩, ⟨vs, k (.inr (.inr (.inr (.inl rfl)))) a5, a6⟩, ?_, a8, a9, b1, b2, b3, b4⟩
  exact ⟨k (.inr (.inr (.inr (.inr (.inl rfl))))) a7.obj, a7.small, a7.keys, a7.addrs, a7.apart, fun p hp => let ⟨ks, h1, h2⟩ := a7.sets p hp; ⟨ks, k (.inr (.inr (.inr (.inr (.inr ⟨p.1, hp⟩))))) h1, h2⟩, a7.all⟩
end Mine
end PeelPart

section SubWPart
open PySem PySem.W PyProof.Rows PySem.Calls
namespace Mine

/-- a list of small ints, not the generator's own -/
def itemL (l : List Nat) (v : Value) (V : Nat → Prop) (s s' : Shared) : Prop := ∃ O : Nat, v = .ref O ∧ At s' O (NatsO l) ∧ ¬ V O ∧ New s O

def GenPost {α : Type} (prog : Program) (w : World) (d : Nat) (item : α → Value → (Nat → Prop) → Shared → Shared → Prop) (xs : List α) (R V G : Nat → Prop) (s' : Shared) (e : End) (s1 : Shared) : Prop :=
  match xs with
  | [] => e = .ret (.ok (.ret .none)) ∧ Kp V G s' s1
  | x :: xs => ∃ v, e.result = .yielded v ∧ e.quiet = true ∧ Kp V G s' s1 ∧ ∃ V' G' : Nat → Prop,
      (∀ b, V' b → V b ∨ New s' b) ∧ (∀ b, V' b → Live s1 b) ∧ (∀ i, G' i → G i ∨ s'.gens.size ≤ i) ∧ item x v V' s' s1 ∧ GenDoes prog w d item xs e.genState R V' G' s1

theorem genDoes_iff {α : Type} {prog : Program} {w : World} {d : Nat} {item : α → Value → (Nat → Prop) → Shared → Shared → Prop} {xs : List α} {gs : GenState} {R V G : Nat → Prop} {s : Shared} :
    GenDoes prog w d item xs gs R V G s ↔ ∀ A s', Fit d A → Held w (fun b => R b ∨ V b) G s s' → Woke (model prog w) A (GenPost prog w d item xs R V G s') gs s' := by
  cases xs <;> exact Iff.rfl

def whT (b : List Stmt) : Expr := match b with | [_, _, _, _, .While t _ _ _] => t | _ => .Name ⟨#[]⟩ ⟨0, 0, 0, 0⟩
def whB (b : List Stmt) : List Stmt := match b with | [_, _, _, _, .While _ b _ _] => b | _ => []

noncomputable abbrev subLoop (P : Params) (L : Nat) : Code := .whileLoop (whT (bodyOf (fdOf P 57))) (whB (bodyOf (fdOf P 57))) [] (envSub P L)
noncomputable abbrev subFr (P : Params) (L : Nat) (k : Result → Sem Fin) (p : Pos) : Frame := .ret k none false [] (.func (bodyOf (fdOf P 57)) (envSub P L)) p []

section
variable {prog : Program} {w : World}

theorem subV_live {L S T D tb todo kv s b} (x : SubInv w s L S T D tb kv todo) (h : subV L S T D tb b) : Live s b := by
  rcases h with rfl | rfl | rfl | rfl | rfl | ⟨k, h⟩
  · exact x.vars.live
  · exact x.cell.live
  · obtain ⟨c, ks, h, _⟩ := x.set; exact h.live
  · obtain ⟨vs, h, _⟩ := x.lst; exact h.live
  · exact x.dd.obj.live
  · obtain ⟨ks, h1, _⟩ := x.dd.sets _ h; exact h1.live

theorem subV_new {L S T D tb todo kv s b} (x : SubInv w s L S T D tb kv todo) (h : subV L S T D tb b) : b < s.heap.objs.size := by
  rcases h with rfl | rfl | rfl | rfl | rfl | ⟨k, h⟩
  · exact x.vars.lt
  · exact x.cell.lt
  · obtain ⟨c, ks, h, _⟩ := x.set; exact h.lt
  · obtain ⟨vs, h, _⟩ := x.lst; exact h.lt
  · exact x.dd.obj.lt
  · exact x.dd.lt h

theorem sub_while {L : Nat} (h88 : 88 ≤ L) {kv : List (Nat × Nat)} (hac : Acy kv) {k : Result → Sem Fin} {p : Pos} (hk : k (.ok .next) = .pure (.done (.ret .none))) :
    ∀ n todo s S T D tb A, todo.length ≤ n → SubInv w s L S T D tb kv todo → (∀ b, subV L S T D tb b → 88 ≤ b) → Fit 3 A → Bs w s.heap →
      Sg (model prog w) A (GenPost prog w 3 itemL (peel kv n todo) No (subV L S T D tb) No s) (subLoop w.params L) ((model prog w).den (subLoop w.params L)) [subFr w.params L k p] s := by
  intro n
  induction n with
  | zero =>
    intro todo s S T D tb A hn x hV hA B
    have h0 : todo = [] := List.length_eq_zero_iff.mp (by omega)
    subst h0
    refine sg_whileLoop ?_
    refine wpAny_isTrue_value ?_
    refine ev_cell x.cell ?_
    obtain ⟨c, ks, hS, hks⟩ := x.set
    refine truthy_set hS fun s1 e1 => ?_
    have : ks = [] := List.eq_nil_iff_forall_not_mem.mpr fun y hy => by simpa using (hks y).mp hy
    subst this
    rw [if_neg (by simp)]
    intro H
    show Sg _ A _ _ (leafOf (.ok .next)) _ s1
    refine sg_leaf _ ?_
    rw [hk]
    show Sg _ A _ _ (leafOf (.ok (.ret .none))) _ s1
    exact sg_end _ ⟨rfl, kp_no e1⟩
  | succ n ih =>
    intro todo s S T D tb A hn x hV hA B
    refine sg_whileLoop ?_
    refine wpAny_isTrue_value ?_
    refine ev_cell x.cell ?_
    obtain ⟨c, ks, hS, hks⟩ := x.set
    refine truthy_set hS fun s1 e1 => ?_
    by_cases h0 : todo = []
    · subst h0
      have : ks = [] := List.eq_nil_iff_forall_not_mem.mpr fun y hy => by simpa using (hks y).mp hy
      subst this
      rw [if_neg (by simp)]
      intro H
      show Sg _ A _ _ (leafOf (.ok .next)) _ s1
      refine sg_leaf _ ?_
      rw [hk]
      show Sg _ A _ _ (leafOf (.ok (.ret .none))) _ s1
      exact sg_end _ ⟨rfl, kp_no e1⟩
    have hksne : ks ≠ [] := by
      obtain ⟨y, hy⟩ := List.exists_mem_of_ne_nil todo h0
      exact List.ne_nil_of_mem ((hks y).mpr hy)
    rw [if_pos (by simpa using hksne)]
    intro H
    have x1 : SubInv w s1 L S T D tb kv todo := x.on fun b o _ e => e1.keep b o id e
    have B1 := B.kp e1 (fun _ h => h.elim)
    have hkeq := rdy_congr (kv := kv) hks
    obtain ⟨y, hy, hyr⟩ := rdy_some hac h0
    refine sg_stmt ?_
    refine wpAny_Assign_Name ?_
    refine List_ ?_
    refine spliced_nil ?_
    refine new_list (by simp) fun s2 O e2 hO o2 => ?_
    have x2 : SubInv w s2 L S T D tb kv todo := x1.on fun b o _ e => e2.keep b o id e
    have B2 := B1.kp e2 (fun _ h => h.elim)
    have hOa : Above s1 O := above_le (Nat.le_of_eq hO.symm)
    have hold : ∀ b, subV L S T D tb b → b < O := fun b hb => by have := subV_new x1 hb; omega
    have hOL : L < O := hold L (.inl rfl)
    refine st_local [(Str.ofString "edges", .ref D), (Str.ofString "todo", .ref T)] x2.vars (by simp (decide := true)) fun s3 e3 l3 => ?_
    refine ⟨rfl, ?_⟩
    refine sg_stmt ?_
    have nL : ∀ b, subV L S T D tb b → b ≠ L → ∀ {φ}, At s2 b φ → At s3 b φ := fun b _ hb φ h => h.kp e3 hb
    obtain ⟨vs, hT, hvs⟩ := x2.lst
    obtain ⟨c', ks', hS2, hks'⟩ := x2.set
    have hT3 := hT.kp e3 x.nT.1
    have hS3 := hS2.kp e3 x.nS.1
    have hC3 := x2.cell.kp e3 (by omega)
    have o3 := o2.kp e3 (by omega)
    have d3 := x2.dd.kp e3 x.nD.1 (fun p hp => (x.nt p hp).1)
    have hOT : T < O := hold T (.inr (.inr (.inr (.inl rfl))))
    have hOS : S < O := hold S (.inr (.inr (.inl rfl)))
    have hOD : D < O := hold D (.inr (.inr (.inr (.inr (.inl rfl)))))
    have hOC : L + 1 < O := hold (L + 1) (.inr (.inl rfl))
    have nT := x.nT; have nS := x.nS; have nD := x.nD
    refine sel_loop (by exact hA.handled) l3 hC3 hS3 hT3 hvs o3 d3 (by unfold sysModules; omega) x.small x.len (by omega) (by omega) (by omega) (by omega)
      (fun p hp => ?_) (.tail _ (.head _)) (.tail _ (.tail _ (.head _))) (.head _) (by simp (decide := true)) (fun s4 tb' ws l4 e4 d4 hnew o4 hws => ?_)
    · have := x.nt p hp
      have := hold p.2 (.inr (.inr (.inr (.inr (.inr ⟨p.1, hp⟩)))))
      omega
    refine ⟨rfl, ?_⟩
    have hout : (todo.filter (rdy kv ks')) = todo.filter (rdy kv todo) := by rw [rdy_congr hks']
    rw [hout] at hws
    have hone : todo.filter (rdy kv todo) ≠ [] := List.ne_nil_of_mem (List.mem_filter.mpr ⟨hy, hyr⟩)
    have hwsl : ws.length ≤ 7 := by
      rw [hws.length]
      have := List.length_filter_le (rdy kv todo) todo
      have := x.len; omega
    have hwne : ws ≠ [] := by
      intro h
      have := hws.length
      rw [h] at this
      exact hone (List.length_eq_zero_iff.mp this.symm)
    refine sg_stmt ?_
    refine wpAny_If ?_
    refine wpAny_isTrue_Not ?_
    refine wpAny_isTrue_value ?_
    refine ev_local l4 (.head _) ?_
    refine truthy_listO o4 (by omega) fun s5 e5 => ?_
    rw [show (!(!ws.isEmpty)) = false by simpa using hwne]
    show wpAny _ _ (execs [] _) _ _ s5
    refine wpAny_execs_nil ⟨rfl, ?_⟩
    have hnewO : ∀ p ∈ tb', p.2 ≠ L ∧ p.2 ≠ L + 1 ∧ p.2 ≠ S ∧ p.2 ≠ T ∧ p.2 ≠ O := fun p hp => by
      have ltO := o3.lt
      rcases hnew p hp with h | h
      · have h1 := x.nt p h
        have h2 := hold p.2 (.inr (.inr (.inr (.inr (.inr ⟨p.1, h⟩)))))
        omega
      · have := l3.above h; have := hC3.above h; have := hS3.above h; have := hT3.above h; have := o3.above h
        omega
    refine sg_stmt ?_
    refine wpAny_Expr_any ?_ rfl rfl
    refine wpAny_Call_method rfl rfl rfl F.plainAttrs_set F.slot_set_difference_update F.type_set_difference_update ?_
    have hC5 := (hC3.kp e4 (by omega)).kp e5 id
    have hS5 := (hS3.kp e4 (by omega)).kp e5 id
    have hT5 := (hT3.kp e4 (by omega)).kp e5 id
    have o5 := o4.kp e5 id
    have l5 := l4.kp e5 id
    have d5 := d4.kp e5 id (fun _ _ => id)
    refine ev_cell hC5 ?_
    refine ⟨setO_typeIs hS5, setO_noDict hS5, ?_⟩
    refine PyProof.Rows.callWith_method1 ?_
    refine spliced_cons ?_
    refine ev_local l5 (.head _) ?_
    refine spliced_nil ?_
    have o5n : At s5 O (NatsO (todo.filter (rdy kv todo))) := o5.imp fun o ho => ⟨ws, ho, hws⟩
    refine call_du (by exact hA.handled) hS5 o5n (fun k hk => x.small k (List.mem_filter.mp hk).1) (by omega) fun s6 c6 e6 hS6 => ?_
    refine ⟨rfl, ?_⟩
    refine sg_stmt ?_
    have hC6 := hC5.kp e6 (by omega)
    have hT6 := hT5.kp e6 (by omega)
    have o6 := o5n.kp e6 (by omega)
    have l6 := l5.kp e6 (by omega)
    have d6 := d5.kp e6 (by omega) (fun p hp => (hnewO p hp).2.2.1)
    refine filt_stmt [(Str.ofString "output", .ref O), (Str.ofString "edges", .ref D)] (by exact hA.handled) l6 hC6 hS6 hT6 hvs x.len (by simp) (by simp (decide := true)) (fun s7 T' ws' e7 hT' l7 t7 hws' => ?_) rfl rfl
    refine ⟨rfl, ?_⟩
    refine sg_cons ?_
    refine sg_yields rfl ?_
    refine ev_local l7 (.tail _ (.head _)) ?_
    intro g l kk p' hkk hg
    subst hg
    have ltT' : Above s6 T' := hT'
    have hC7 := hC6.kp e7 (by omega)
    have hS7 := hS6.kp e7 (by omega)
    have o7 := o6.kp e7 (by omega)
    have d7 := d6.kp e7 (by omega) (fun p hp => (hnewO p hp).1)
    have aT1 := hS6.above hT'; have aT2 := hC6.above hT'; have aT3 := l6.above hT'; have aT4 := o6.above hT'; have aT5 := d6.obj.above hT'
    have aT6 : ∀ p ∈ tb', p.2 < T' := fun p hp => by obtain ⟨ks, h1, _⟩ := d6.sets p hp; exact h1.above hT'
    -- all that was changed
    let V := subV L S T D tb
    have hnewV : ∀ b, subV L S T' D tb' b → V b ∨ Above s b := by
      intro b hb
      rcases hb with rfl | rfl | rfl | rfl | rfl | ⟨k, h⟩
      · exact .inl (.inl rfl)
      · exact .inl (.inr (.inl rfl))
      · exact .inl (.inr (.inr (.inl rfl)))
      · refine .inr fun b o g => ?_
        by_cases hVb : subV L S T D tb b
        · rcases hVb with rfl | rfl | rfl | rfl | rfl | ⟨k, h⟩
          · exact aT3
          · exact aT2
          · exact aT1
          · exact hT6.above hT'
          · exact aT5
          · have := hold b (.inr (.inr (.inr (.inr (.inr ⟨k, h⟩))))); omega
        · have := hOa b o (e1.keep b o id g); omega
      · exact .inl (.inr (.inr (.inr (.inr (.inl rfl)))))
      · rcases hnew _ h with h' | h'
        · exact .inl (.inr (.inr (.inr (.inr (.inr ⟨k, h'⟩)))))
        · refine .inr fun c o g => ?_
          have g2 := e2.keep c o id (e1.keep c o id g)
          by_cases hcL : c = L
          · subst hcL; exact l3.above h'
          · exact h' c o (e3.keep c o hcL g2)
    have hkp : Kp V No s s7 := by
      have a1 : Kp No No s s2 := e1.trans e2
      have a3 : Kp (fun b => b = L ∨ b = D ∨ b = O ∨ b = S) No s2 s7 := by
        have f3 := e3.mono (P' := fun b => b = L ∨ b = D ∨ b = O ∨ b = S) (D' := No) (fun b _ _ h => .inl h) fun _ _ h => h
        have f4 := e4.mono (P' := fun b => b = L ∨ b = D ∨ b = O ∨ b = S) (D' := No) (fun b _ _ h => by omega) fun _ _ h => h
        have f5 := kp_no (P := fun b => b = L ∨ b = D ∨ b = O ∨ b = S) (D := No) e5
        have f6 := e6.mono (P' := fun b => b = L ∨ b = D ∨ b = O ∨ b = S) (D' := No) (fun b _ _ h => by omega) fun _ _ h => h
        have f7 := e7.mono (P' := fun b => b = L ∨ b = D ∨ b = O ∨ b = S) (D' := No) (fun b _ _ h => .inl h) fun _ _ h => h
        exact (((f3.trans f4).trans f5).trans f6).trans f7
      refine kp_new a1 a3 fun b o g h => ?_
      have hb := hOa b o (e1.keep b o id g)
      rcases h with h | h | h | h
      · exact .inl h
      · exact .inr (.inr (.inr (.inr (.inl h))))
      · omega
      · exact .inr (.inr (.inl h))
    have htodo : (todo.filter fun x => decide (x ∈ ks'.filter fun x => ! (todo.filter (rdy kv todo)).contains x)) = todo.filter fun x => ! rdy kv todo x := by
      refine List.filter_congr fun z hz => ?_
      have h1 : z ∈ ks' := (hks' z).mpr hz
      cases hr : rdy kv todo z <;> simp [h1, hz, hr]
    rw [htodo] at hws'
    have hlt := filter_shorter hy hyr
    have x7 : SubInv w s7 L S T' D tb' kv (todo.filter fun x => ! rdy kv todo x) := by
      refine ⟨vars_sub l7 (by simp (decide := true)), hC7, ⟨_, _, hS7, fun z => ?_⟩, ⟨_, t7, hws'⟩, d7, fun z hz => x.small z (List.mem_filter.mp hz).1, by have := x.len; omega, by omega, by omega, by omega, fun p hp => ?_⟩
      · rw [List.mem_filter, List.mem_filter, hks' z]
        constructor
        · rintro ⟨h1, h2⟩
          refine ⟨h1, ?_⟩
          cases hr : rdy kv todo z
          · rfl
          · simp [h1, hr] at h2
        · rintro ⟨h1, h2⟩
          refine ⟨h1, ?_⟩
          simp at h2
          simp [h2]
      · have := hnewO p hp; have := aT6 p hp; omega
    have hO' : ¬ subV L S T' D tb' O := by
      rintro (h | h | h | h | h | ⟨k, h⟩)
      · omega
      · omega
      · omega
      · omega
      · omega
      · exact (hnewO _ h).2.2.2.2 rfl
    have h88' : ∀ b, subV L S T' D tb' b → 88 ≤ b := fun b hb => by
      rcases hnewV b hb with h | h
      · exact hV b h
      · have := x.vars.above h; omega
    have hpeel : peel kv (n + 1) todo = todo.filter (rdy kv todo) :: peel kv n (todo.filter fun x => ! rdy kv todo x) := by
      rw [peel, if_neg h0]
    rw [hpeel]
    refine ⟨.ref O, rfl, rfl, hkp, subV L S T' D tb', No, fun b hb => (hnewV b hb).imp id fun h => New.of_above h (h88' b hb), fun b hb => subV_live x7 hb, fun _ h => h.elim, ⟨O, rfl, o7, hO', New.of_above (fun b o g => hOa b o (e1.keep b o id g)) (by have := B1.size; omega)⟩, ?_⟩
    refine genDoes_iff.mpr fun A' s8 hA' hs8 => ?_
    show Sg _ A' _ _ (kk (.send .none)) _ s8
    rw [hkk]
    show Sg _ A' _ _ (.pure (.again _)) _ s8
    refine sg_again rfl ?_
    have x8 : SubInv w s8 L S T' D tb' kv (todo.filter fun x => ! rdy kv todo x) := x7.on fun b o hb g => hs8.heap b o (.inr hb) g
    exact ih _ s8 S T' D tb' A' (by omega) x8 h88' hA' hs8.base
end
end Mine
end SubWPart

section SubSPart
open PySem PySem.W PyProof.Rows PySem.Calls
namespace Mine

/-- a list of pairs, all at R -/
def PairsR (s : Shared) (R : Nat → Prop) (P : Nat) (ps : List (Nat × Nat)) : Prop :=
  ∃ vs, At s P (ListO vs) ∧ R P ∧ vs.length = ps.length ∧ ∀ (i : Nat) (h : i < ps.length), ∃ x : Nat, R x ∧ vs[i]? = some (.ref x) ∧ At s x (PairO ps[i].1 ps[i].2)
theorem PairsR.to {s : Shared} {R : Nat → Prop} {P n : Nat} {ps} (h : PairsR s R P ps) (hn : ∀ b, R b → b < n) : PairsIn s n P ps :=
  let ⟨vs, a, b, c, d⟩ := h; ⟨vs, a, hn _ b, c, fun i hi => let ⟨x, h1, h2, h3⟩ := d i hi; ⟨x, hn _ h1, h2, h3⟩⟩
theorem PairsR.on {s s' : Shared} {R : Nat → Prop} {P : Nat} {ps} (h : PairsR s R P ps) (k : ∀ (b : Nat) o, R b → s.heap.get? b = some o → s'.heap.get? b = some o) : PairsR s' R P ps :=
  let ⟨vs, ⟨o, g, r⟩, b, c, d⟩ := h; ⟨vs, ⟨o, k _ _ b g, r⟩, b, c, fun i hi => let ⟨x, h1, h2, ⟨o', g', r'⟩⟩ := d i hi; ⟨x, h1, h2, ⟨o', k _ _ h1 g', r'⟩⟩⟩

/-- a step that keeps all that stood in s0 but P' -/
theorem Kp.then {P P' : Nat → Prop} {s0 s1 s2 : Shared} (x : Kp P' No s0 s1) (y : Kp P No s1 s2) (h : ∀ b, P b → P' b ∨ s0.heap.objs.size ≤ b) : Kp P' No s0 s2 :=
  ⟨fun b o hb g => y.keep b o (fun hp => by
      rcases h b hp with h | h
      · exact hb h
      · have := get_lt g; omega) (x.keep b o hb g), Nat.le_trans x.gsz y.gsz, fun i v _ e => y.gkeep i v id (x.gkeep i v id e), y.bare ∘ x.bare, y.drawn.trans x.drawn, y.os.trans x.os⟩

section
variable {prog : Program} {w : World} {A : Around} {s : Shared}

theorem GenDoes.weak {α : Type} {d : Nat} {item : α → Value → (Nat → Prop) → Shared → Shared → Prop} {R R' : Nat → Prop} (hR : ∀ b, R b → R' b) : ∀ {xs : List α} {gs : GenState} {s : Shared} {V G : Nat → Prop},
    GenDoes prog w d item xs gs R V G s → GenDoes prog w d item xs gs R' V G s := by
  intro xs
  induction xs with
  | nil => exact fun h A s' hA hs => h A s' hA ⟨hs.base, fun b o hb e => hs.heap b o (hb.imp (hR b) id) e, hs.gens, hs.size⟩
  | cons x xs ih =>
    intro gs s V G h A s' hA hs
    have := h A s' hA ⟨hs.base, fun b o hb e => hs.heap b o (hb.imp (hR b) id) e, hs.gens, hs.size⟩
    have hmono : ∀ e s1, GenPost prog w d item (x :: xs) R V G s' e s1 → GenPost prog w d item (x :: xs) R' V G s' e s1 := by
      rintro e s1 ⟨v, h1, h2, h3, V', G', h4, h4', h5, h6, h7⟩
      exact ⟨v, h1, h2, h3, V', G', h4, h4', h5, h6, ih h7⟩
    cases gs with
    | fresh c => exact sg_mono this hmono
    | suspended kk l c p fs cl => exact sg_mono this hmono
    | running => exact this
    | finished => exact this

theorem GenPost.before {α : Type} {d : Nat} {item : α → Value → (Nat → Prop) → Shared → Shared → Prop} {R R' V V' G G' : Nat → Prop} {xs : List α} {s s' : Shared} {e : End} {s1 : Shared}
    (h : GenPost prog w d item xs R V G s' e s1) (k : Kp V' G' s s') (hR : ∀ b, R b → R' b) (hV : ∀ b, V b → V' b ∨ New s b) (hG : ∀ i, G i → G' i ∨ s.gens.size ≤ i) (hi : ∀ x v V1, item x v V1 s' s1 → item x v V1 s s1) : GenPost prog w d item xs R' V' G' s e s1 := by
  have join : Kp V G s' s1 → Kp V' G' s s1 := fun h =>
    ⟨fun b o hb g => h.keep b o (fun hv => by
        rcases hV b hv with h1 | h1
        · exact hb h1
        · rw [h1.1] at g; cases g) (k.keep b o hb g), Nat.le_trans k.gsz h.gsz,
      fun i x hi g => h.gkeep i x (fun hg => by
        rcases hG i hg with h1 | h1
        · exact hi h1
        · have := (Array.getElem?_eq_some_iff.mp g).1; omega) (k.gkeep i x hi g), h.bare ∘ k.bare, h.drawn.trans k.drawn, h.os.trans k.os⟩
  cases xs with
  | nil => exact ⟨h.1, join h.2⟩
  | cons x xs =>
    obtain ⟨v, h1, h2, h3, V1, G1, h4, h4', h5, h6, h7⟩ := h
    refine ⟨v, h1, h2, join h3, V1, G1, fun b hb => ?_, h4', fun i hi => ?_, hi _ _ _ h6, GenDoes.weak hR h7⟩
    · rcases h4 b hb with h | h
      · exact hV b h
      · exact h.kp k
    · rcases h5 i hi with h | h
      · exact hG i h
      · have := k.gsz; exact .inr (by omega)

theorem sub_fresh {L P I : Nat} {R : Nat → Prop} {ps : List (Nat × Nat)} {items : List Nat} (hL : At s L (VarsO [(Str.ofString "tuples", .ref P), (Str.ofString "allitems", .ref I)])) (hC : At s (L + 1) (CellO none)) (hn : 88 ≤ L)
    (hP : PairsR s R P ps) (hI : At s I (NatsO items)) (hRI : R I) (hRL : ∀ b, R b → b < L) (hps : ∀ p ∈ ps, p.1 < 7 ∧ p.2 < 7) (h7 : ∀ x ∈ items, x < 7) (hlen : items.length ≤ 7) (hac : Acy (kvOf true ps)) :
    GenDoes prog w 3 itemL (peel (kvOf true ps) items.length items) (.fresh (.func (bodyOf (fdOf w.params 57)) (envSub w.params L))) R (fun b => b = L ∨ b = L + 1) No s := by
  refine genDoes_iff.mpr fun A s0 hA hs => ?_
  have B := hs.base
  have hL0 : At s0 L _ := let ⟨o, g, r⟩ := hL; ⟨o, hs.heap L o (.inr (.inl rfl)) g, r⟩
  have hC0 : At s0 (L + 1) _ := let ⟨o, g, r⟩ := hC; ⟨o, hs.heap (L + 1) o (.inr (.inr rfl)) g, r⟩
  have hI0 : At s0 I _ := let ⟨o, g, r⟩ := hI; ⟨o, hs.heap I o (.inl hRI) g, r⟩
  have hP0 := (hP.on fun b o hb g => hs.heap b o (.inl hb) g).to hRL
  clear hL hC hI hP hs
  show Sg _ A _ (.func _ _) ((model prog w).den (.func _ _)) [] s0
  refine sg_func fun H => ?_
  refine sg_stmt ?_
  refine wpAny_Assign_Name ?_
  refine Call_ ?_
  refine ev_global B (.type "collections.defaultdict") ?_
  refine PyProof.Rows.callWith_type1 ?_
  refine spliced_cons ?_
  refine ev_builtin B boot_set ?_
  refine spliced_nil ?_
  refine call_dd fun s1 D e1 hD d1 => ?_
  refine st_local [(Str.ofString "tuples", .ref P), (Str.ofString "allitems", .ref I)] (hL0.kp e1 id) (by simp (decide := true)) fun s2 e2 l2 => ?_
  refine ⟨rfl, ?_⟩
  have ltL := hL0.lt; have ltC := hC0.lt; have ltI := hI0.lt; have ltD := d1.lt
  have d2 := (DDS.empty (w := w) d1).kp e2 (by omega) (fun p hp => by simp at hp)
  have hLRI := hRL I hRI
  have k02 : Kp (fun b => b = L) No s0 s2 := (kp_no e1).trans e2
  refine sg_stmt ?_
  refine fill_loop true (by exact hA.handled) l2 d2 (by unfold sysModules; omega) (by omega) (hP0.kp k02 (fun b hb => by omega)) (Nat.le_refl _) hps rfl (.head _) (.tail _ (.head _)) (by simp (decide := true)) (fun s3 tb l3 e3 d3 htb => ?_)
  refine ⟨rfl, ?_⟩
  have k03 : Kp (fun b => b = L) No s0 s3 := k02.then e3 (by omega)
  have B3 : Bs w s3.heap := B.kp k03 (by omega)
  obtain ⟨vs, hIl, hvs⟩ := natsO_list (hI0.kp k03 (by omega))
  refine sg_stmt ?_
  refine wpAny_Assign_Name ?_
  refine Call_ ?_
  refine ev_builtin B3 boot_list ?_
  refine PyProof.Rows.callWith_type1 ?_
  refine spliced_cons ?_
  refine ev_local l3 (.tail _ (.tail _ (.head _))) ?_
  refine spliced_nil ?_
  refine call_list_copy hIl (by rw [hvs.length]; omega) fun s4 T e4 hT t4 => ?_
  have ltT := t4.lt
  have hTD := d3.obj.lt
  refine st_local [(Str.ofString "edges", .ref D), (Str.ofString "allitems", .ref I)] (l3.kp e4 id) (by simp (decide := true)) fun s5 e5 l5 => ?_
  refine ⟨rfl, ?_⟩
  have k04 : Kp (fun b => b = L) No s0 s4 := k03.then e4 (fun _ h => h.elim)
  have k05 : Kp (fun b => b = L) No s0 s5 := k04.then e5 (by omega)
  have B5 : Bs w s5.heap := B.kp k05 (by omega)
  have htbT : ∀ p ∈ tb, p.2 < T := fun p hp => by have := d3.lt hp; omega
  have t5 := t4.kp e5 (by have := l3.lt; omega)
  have d5 := (d3.kp e4 id (fun _ _ => id)).kp e5 (by omega) (fun p hp => by have := htb p hp; omega)
  refine sg_stmt ?_
  refine wpAny_Assign_Name ?_
  refine Call_ ?_
  refine ev_builtin B5 boot_set ?_
  refine PyProof.Rows.callWith_type1 ?_
  refine spliced_cons ?_
  refine ev_local l5 (.tail _ (.tail _ (.head _))) ?_
  refine spliced_nil ?_
  refine call_set_list_ok (by exact hA.handled) (hI0.kp k05 (by omega)) h7 fun s6 S ks e6 hS S6 hks => ?_
  have k06 : Kp (fun b => b = L) No s0 s6 := k05.then e6 (fun _ h => h.elim)
  have ltT5 := t5.lt
  have ltD5 := d5.obj.lt
  refine st_cell (hC0.kp k06 (by omega)) fun s7 e7 c7 => ?_
  refine ⟨rfl, ?_⟩
  have k07 : Kp (fun b => b = L ∨ b = L + 1) No s0 s7 := (k06.mono (fun b _ _ h => .inl h) fun _ _ h => h).then e7 (by omega)
  have B7 : Bs w s7.heap := B.kp k07 (by omega)
  refine sg_cons ?_
  refine sg_While fun p k hk => ?_
  have ltc := c7.lt
  have hTsz : s0.heap.objs.size ≤ T := by
    rw [hT]
    have := l3.lt
    omega
  have x7 : SubInv w s7 L S T D tb (kvOf true ps) items := by
    refine ⟨(vars_sub (l5.kp e6 id) (by simp (decide := true))).kp e7 (by omega), c7, ⟨_, ks, S6.kp e7 (by omega), hks⟩, ⟨vs, (t5.kp e6 id).kp e7 (by omega), hvs⟩,
      (d5.kp e6 id (fun _ _ => id)).kp e7 (by omega) (fun p hp => by have := htb p hp; omega), h7, hlen, ?_, ?_, ?_, fun p hp => ?_⟩
    · omega
    · omega
    · omega
    · have := htb p hp; have := htbT p hp; omega
  have hnew : ∀ b, subV L S T D tb b → (b = L ∨ b = L + 1) ∨ s0.heap.objs.size ≤ b := by
    rintro b (h | h | h | h | h | ⟨k, h⟩)
    · omega
    · omega
    · omega
    · omega
    · omega
    · have := htb _ h; dsimp only at this; omega
  refine sg_mono (sub_while hn hac hk _ items s7 S T D tb A (Nat.le_refl _) x7 (fun b hb => by have := hnew b hb; omega) hA B7) fun e s8 h8 => ?_
  refine h8.before k07 (fun _ h => h.elim) (fun b hb => (hnew b hb).imp id fun h => New.of_above (above_le h) (by omega)) (fun _ h => h.elim) ?_
  rintro x v V1 ⟨O, h1, h2, h3, h4⟩
  refine ⟨O, h1, h2, h3, ?_⟩
  rcases h4.kp k07 with h | h
  · rcases h with h | h
    · exact absurd h.symm (h4.ne x7.vars)
    · exact absurd h.symm (h4.ne c7)
  · exact h
end
end Mine
end SubSPart

section Sg3Part
open PySem PySem.W PyProof.Rows PySem.Calls
namespace Mine

section
variable {M : Model} {A : Around} {Φ : End → Shared → Prop} {c : Code} {fs : List Frame} {s : Shared} {env : Env}
  {K : Flow → Sem Fin} {H : Value → Sem Fin} {gd : Bool → Bool} {lv : List Value → List Value}

theorem sg_For {target iter : Expr} {body orelse : List Stmt} {pos : Pos}
    (h : wpAny M (A.over c fs) (eval iter env) (fun x s₁ => wpAny M (A.over c fs) (pyIter x) (fun it s₂ => ∀ p k, k (.ok .next) = K .next →
      Sg M A Φ (.forLoop target it body orelse env) (M.den (.forLoop target it body orelse env)) (.ret k none (gd false) (lv []) c p [] :: fs) s₂) noE s₁) noE s)
    (hs : ∀ x, foldedSetIterable iter env x = pure x := by intro _; rfl) :
    Sg M A Φ c ((exec (.For target iter body orelse pos) env).wrap K H gd lv) fs s := by
  rw [exec_For]
  show Sg M A Φ c (.at pos fun _ => ((eval iter env >>= fun v => foldedSetIterable iter env v >>= fun x => (standAt iter.pos >>= fun _ => (holding [x] (pyIter x) >>= fun it => runOwn (.forLoop target it body orelse env) env)))).wrap K H gd lv) fs s
  refine sg_at ?_
  rw [Sem.bind_eq_wrap', Sem.wrap_wrap]
  refine sg_wrap (wpAny_mono h (fun v s' h' => ?_) fun _ _ x => x.elim)
  rw [hs v]
  show Sg M A Φ c (.at iter.pos fun _ => (holding [v] (pyIter v) >>= fun it => runOwn (.forLoop target it body orelse env) env).wrap K H gd lv) fs s'
  refine sg_at ?_
  rw [Sem.bind_eq_wrap', Sem.wrap_wrap]
  refine sg_wrap (wpAny_holding (wpAny_mono h' (fun it s2 h2 => ?_) fun _ _ x => x.elim))
  exact sg_call fun p => h2 p _ rfl

theorem sg_YieldFrom {e : Expr} {ypos pos : Pos}
    (h : wpAny M (A.over c fs) (eval e env) (fun v s' => wpAny M (A.over c fs) (typeOf v) (fun t s'' => (t == .type "coroutine") = false ∧ wpAny M (A.over c fs) (pyIter v) (fun it s3 => ∀ p k, k (.ok (.ret .none)) = K .next →
      Sg M A Φ (.builtin "proto.yield_from" ⟨[it, .bool false, .none], []⟩) (M.den (.builtin "proto.yield_from" ⟨[it, .bool false, .none], []⟩)) (.ret k none (gd false) (lv []) c p [] :: fs) s3) noE s'') noE s') noE s)
    (hi : interactive env = false := by rfl) :
    Sg M A Φ c ((exec (.Expr (.YieldFrom e ypos) pos) env).wrap K H gd lv) fs s := by
  rw [exec_Expr env _ pos hi rfl]
  show Sg M A Φ c (.at pos fun _ => ((eval e env >>= fun v => (standAt ypos >>= fun _ => yieldFrom env v)) >>= fun x =>
    dropValue (.YieldFrom e ypos) pos x).wrap K H gd lv) fs s
  refine sg_at ?_
  rw [Sem.bind_eq_wrap', Sem.bind_eq_wrap', Sem.wrap_wrap, Sem.wrap_wrap]
  refine sg_wrap (wpAny_mono h (fun v s' h' => ?_) fun _ _ x => x.elim)
  refine sg_at ?_
  show Sg M A Φ c ((yieldFrom env v).wrap _ _ _ _) fs s'
  unfold yieldFrom
  rw [Sem.bind_eq_wrap', Sem.wrap_wrap]
  refine sg_wrap (wpAny_mono h' (fun t s2 h2 => ?_) fun _ _ x => x.elim)
  obtain ⟨ht, h2⟩ := h2
  rw [ht]
  simp only [Bool.false_eq_true, if_false]
  rw [Sem.bind_eq_wrap', Sem.wrap_wrap]
  refine sg_wrap (wpAny_holding (wpAny_mono h2 (fun it s3 h3 => ?_) fun _ _ x => x.elim))
  exact sg_call fun p => h3 p _ rfl
end

section
variable {prog : Program} {w : World} {A : Around} {Φ : End → Shared → Prop} {fs : List Frame} {s : Shared} {env : Env}

theorem sg_forLoop {target : Expr} {it : Value} {body : List Stmt}
    (h : wpAny (model prog w) (A.over (.forLoop target it body [] env) fs) (pyNext it) (fun r s1 => match r with
      | none => ∀ p, Sg (model prog w) A Φ p (leafOf (.ok .next)) fs s1
      | some v => wpAny (model prog w) (A.over (.forLoop target it body [] env) fs) (letOwnedTupleGo target it v) (fun _ s1' => wpAny (model prog w) (A.over (.forLoop target it body [] env) fs) (assign target env v) (fun _ s2 =>
          ∀ H, Sg (model prog w) A Φ (.forLoop target it body [] env) ((execs body env).wrap (fun f => match f with
            | .next | .cont => .pure (.again (.forLoop target it body [] env))
            | .brk => .pure (.done .next)
            | .ret v => .pure (.done (.ret v))) H id id) fs s2) noE s1') noE s1) noE s) :
    Sg (model prog w) A Φ (.forLoop target it body [] env) ((model prog w).den (.forLoop target it body [] env)) fs s := by
  show Sg _ A Φ _ ((forTurn target it body [] env).onRaise (fun x => do noteFrame x env; theTreesLotGoes x)) fs s
  unfold forTurn
  rw [Sem.onRaise_eq_wrap]
  show Sg _ A Φ _ (.at target.pos fun _ => (((pyNext it).onRaise (fun _ => standAt { target.pos with line := 0 })) >>= _).wrap _ _ _ _) fs s
  refine sg_at ?_
  rw [Sem.bind_eq_wrap', Sem.wrap_wrap]
  refine sg_wrap (wpAny_onRaise (wpAny_mono h (fun r s1 h1 => ?_) fun _ _ x => x.elim))
  cases r with
  | none =>
    refine sg_again rfl ?_
    exact h1 _
  | some v =>
    show Sg _ A Φ _ (Sem.wrap _ _ _ _ (letOwnedTupleGo target it v >>= _)) fs s1
    rw [Sem.bind_eq_wrap', Sem.wrap_wrap]
    refine sg_wrap (wpAny_mono h1 (fun _ s1' h1' => ?_) fun _ _ x => x.elim)
    rw [Sem.bind_eq_wrap', Sem.wrap_wrap]
    refine sg_wrap (wpAny_mono h1' (fun _ s2 h2 => ?_) fun _ _ x => x.elim)
    rw [Sem.bind_eq_wrap', Sem.wrap_wrap]
    rw [Sem.wrap_congr (execs body env) _ _ (K' := fun f => match f with
          | .next | .cont => .pure (.again (.forLoop target it body [] env))
          | .brk => .pure (.done .next)
          | .ret v => .pure (.done (.ret v))) (fun f => by cases f <;> rfl) (fun _ => rfl)]
    exact h2 _
end
end Mine
end Sg3Part

section YfPart
open PySem PySem.W PyProof.Rows PySem.Calls
namespace Mine

theorem entry_yf : entryFor table "proto.yield_from" = some Builtin.«proto.yield_from» := entryFor_of_tree (by kernel_rfl)
theorem den_builtin {prog w id args b} (hb : entryFor table id = some b) : (model prog w).den (.builtin id args) = b args := by
  show (match entryFor table id with | some b => b args | none => unsupported ((withoutEnding? id "#data").getD id)) = _
  rw [hb]
theorem den_yf {prog w args} : (model prog w).den (.builtin "proto.yield_from" args) = Builtin.«proto.yield_from» args := den_builtin entry_yf
theorem noClose_listiter : typeLookup (.type "list_iterator") "close" = pure none := by rw [typeLookup_type, builtinLookup_eq_fast]; kernel_rfl
theorem plain_yf : plainId "proto.yield_from" = true := by decide +kernel
abbrev yfc (IT : Nat) : Code := .builtin "proto.yield_from" ⟨[.ref IT, .bool false, .none], []⟩

section
variable {prog : Program} {w : World} {A : Around} {Φ : End → Shared → Prop} {fs : List Frame} {s : Shared} {env : Env}

theorem special_item {E : Value → Shared → Prop} {IT O i : Nat} {vs : List Value} {v : Value} (hi : At s IT (IterO O i)) (hl : At s O (ListO vs)) (hx : vs[i]? = some v) {Q : Option Value → Shared → Prop}
    (hQ : ∀ s', Kp (· = IT) No s s' → At s' IT (IterO O (i + 1)) → Q (some v) s') : wpAny (model prog w) A (callSpecial? (.ref IT) "__next__") Q E s := by
  obtain ⟨o, ho, hc, hd⟩ := id hi
  obtain ⟨ol, hol, _, _, nl, hdl⟩ := hl
  have hT : s.TypeIs (.ref IT) "list_iterator" := ⟨o, ho, hc⟩
  refine wpAny_callSpecial?_slot hT slot_listiter_next (wpAny_call_entry slot_listiter_next hT entry_listiter_next ?_ (args_listiter_next _))
  show wpAny _ _ (field (.ref IT) 0 >>= _) _ _ s
  refine wpAny_bind (wpAny_field ho hd (x := .ref O) rfl ?_)
  show wpAny _ _ (if (Value.ref O == Value.none) = true then _ else _) _ _ s
  rw [if_neg (show ¬ ((Value.ref O == Value.none) = true) from Bool.false_ne_true)]
  show wpAny _ _ (field (.ref IT) 1 >>= _) _ _ s
  refine wpAny_bind (wpAny_field ho hd (x := .int i 0) rfl ?_)
  show wpAny _ _ (seqItems? (.ref O) >>= _) _ _ s
  refine wpAny_bind (wpAny_seqItems hol hdl ?_)
  have hx' : vs.toArray[i]? = some v := by simpa using hx
  simp only [Int.toNat_natCast, hx']
  refine wpAny_bind (wpAny_setField ho hd (by simp) (wpAny_pure ⟨v, rfl, hQ _ (Kp.same (tk := s.toks) (Heap.SameBut.update ..)) ?_⟩))
  exact ⟨_, Heap.get?_update_self _ ho (Obj.isFreed_of_fields (Obj.data_mapFields hd _)), (Obj.cls_mapFields ..).trans hc, by
    rw [Obj.data_mapFields hd]; simp [rawInt]⟩

theorem yf_item {IT O i : Nat} {vs : List Value} {v : Value} (hi : At s IT (IterO O i)) (hl : At s O (ListO vs)) (hx : vs[i]? = some v) (hfs : splitAtGen fs = none)
    (h : ∀ s', Kp (· = IT) No s s' → At s' IT (IterO O (i + 1)) → ∀ g l kk p, g = false →
      (∀ A' Ψ s'', At s'' IT (IterO O (i + 1)) → Sg (model prog w) A' Ψ (yfc IT) ((model prog w).den (yfc IT)) fs s'' → Sg (model prog w) A' Ψ (yfc IT) (kk (.send .none)) fs s'') → Φ (.susp v g l kk (yfc IT) p fs) s') :
    Sg (model prog w) A Φ (yfc IT) ((model prog w).den (yfc IT)) fs s := by
  rw [den_yf]
  unfold Builtin.«proto.yield_from»
  dsimp only
  refine sg_bind (wpAny_pure ?_)
  refine sg_bind (wpAny_attempt (wpAny_holding ?_))
  rw [if_neg Bool.false_ne_true, if_pos (show (Value.none == Value.none) = true from rfl)]
  refine wpAny_bind (wpAny_rule (wpAny_bind ?_))
  refine special_item hi hl hx fun s1 e1 i1 => ?_
  refine wpAny_pure ?_
  obtain ⟨o1, g1, hc1, hd1⟩ := id i1
  refine sg_bind (wpAny_typeOf (T := "list_iterator") ⟨o1, g1, hc1⟩ ?_)
  refine sg_bind (wpAny_of_eq noClose_listiter ?_)
  refine sg_bind (wpAny_pure ?_)
  have slept : ∀ {A : Around} {s : Shared} {b : Bool} {E : Value → Shared → Prop} {Q : Unit → Shared → Prop}, At s IT (IterO O (i + 1)) → Q () s → wpAny (model prog w) A (Builtin.Generator.sleptOver (.ref IT) b) Q E s := by
    intro A s b E Q ⟨o, g, hc, hd⟩ hQ
    unfold Builtin.Generator.sleptOver
    refine wpAny_bind (wpAny_load g ?_)
    rw [hc]
    exact wpAny_pure hQ
  refine sg_bind (slept i1 ?_)
  rw [Sem.bind_eq_wrap']
  show Sg _ A Φ _ (.yield v false _ _) fs s1
  refine sg_yield hfs fun p => ?_
  refine h s1 e1 i1 false _ _ p rfl fun A' Ψ s'' hi' hs' => ?_
  refine sg_bind (slept hi' ?_)
  show Sg _ A' Ψ _ (pure Value.none >>= _) fs s''
  refine sg_bind (wpAny_pure ?_)
  exact sg_again (plainId_quiet plain_yf _) hs'

theorem yf_end {IT O i : Nat} {vs : List Value} (hi : At s IT (IterO O i)) (hl : At s O (ListO vs)) (hx : vs[i]? = none) (hov : (A.over (yfc IT) fs).handled = none)
    (h : ∀ s', Kp (· = IT) No s s' → Sg (model prog w) A Φ (yfc IT) (leafOf (.ok (.ret .none))) fs s') :
    Sg (model prog w) A Φ (yfc IT) ((model prog w).den (yfc IT)) fs s := by
  rw [den_yf]
  unfold Builtin.«proto.yield_from»
  dsimp only
  refine sg_bind (wpAny_pure ?_)
  refine sg_bind (wpAny_attempt (wpAny_holding ?_))
  rw [if_neg Bool.false_ne_true, if_pos (show (Value.none == Value.none) = true from rfl)]
  refine wpAny_bind (wpAny_rule (wpAny_bind ?_))
  obtain ⟨o, ho, hc, hd⟩ := id hi
  obtain ⟨ol, hol, _, _, nl, hdl⟩ := hl
  have hT : s.TypeIs (.ref IT) "list_iterator" := ⟨o, ho, hc⟩
  refine wpAny_callSpecial?_slot hT slot_listiter_next (wpAny_call_entry slot_listiter_next hT entry_listiter_next ?_ (args_listiter_next _))
  show wpAny _ _ (field (.ref IT) 0 >>= _) _ _ s
  refine wpAny_bind (wpAny_field ho hd (x := .ref O) rfl ?_)
  show wpAny _ _ (if (Value.ref O == Value.none) = true then _ else _) _ _ s
  rw [if_neg (show ¬ ((Value.ref O == Value.none) = true) from Bool.false_ne_true)]
  show wpAny _ _ (field (.ref IT) 1 >>= _) _ _ s
  refine wpAny_bind (wpAny_field ho hd (x := .int i 0) rfl ?_)
  show wpAny _ _ (seqItems? (.ref O) >>= _) _ _ s
  refine wpAny_bind (wpAny_seqItems hol hdl ?_)
  have hx' : vs.toArray[i]? = none := by simpa using hx
  simp only [Int.toNat_natCast, hx']
  refine wpAny_bind (wpAny_rule (wpAny_bind (wpAny_setField ho hd (by simp) ?_)))
  show wpAny _ _ (newExc (.type "StopIteration") [] >>= _) _ _ _
  refine wpAny_bind ?_
  simp only [newExc, newTuple]
  refine wpAny_bind (wpAny_newObj_type ?_ (by size_fits))
  refine wpAny_bind (m := firstArgMember _ _) (wpAny_of_eq (a := Value.none) (by first | rfl | (simp only [firstArgMember]; rfl)) ?_)
  refine wpAny_newObj_type ?_ (by size_fits)
  simp only [raiseNew]
  refine wpAny_bind (wpAny_handled ?_)
  rw [show (Around.in1 (A.over (yfc IT) fs)).handled = none from hov]
  refine wpAny_bind (wpAny_pure (wpAny_throw ?_))
  have hst : isSubtype (.type "StopIteration") (.type "StopIteration") = pure true := isSubtype_stop
  refine sg_bind ?_
  unfold Builtin.Generator.endsTheTurnAsAValue Builtin.Generator.isStopAndMetaclass
  refine wpAny_bind (wpAny_bind (wpAny_typeOf (T := "StopIteration") ⟨_, Heap.get?_push_size _ rfl, rfl⟩ ?_))
  refine wpAny_bind (wpAny_of_eq hst ?_)
  refine wpAny_bind (wpAny_of_eq (a := Value.type "type") (by kernel_rfl) ?_)
  refine wpAny_pure ?_
  dsimp only
  rw [if_neg Bool.false_ne_true]
  refine wpAny_pure ?_
  rw [if_pos rfl, if_neg Bool.false_ne_true]
  refine sg_bind (wpAny_rule ?_)
  refine sg_bind (wpAny_field (Heap.get?_push_size _ rfl) rfl (x := Value.none) (by kernel_rfl) ?_)
  refine h _ ?_
  exact Kp.ext (tk := s.toks) (((Heap.SameBut.update s.heap IT _).extBut.push _).push _)
end
end Mine
end YfPart

section Sort1Part
open PySem PySem.W PyProof.Rows PySem.Calls
namespace Mine

noncomputable abbrev envSort (P : Params) (L : Nat) : Env := callEnvC (fdOf P 65) L 65
def itemI (k : Nat) (v : Value) (V : Nat → Prop) (s s' : Shared) : Prop := ∃ t, v = .int k t

def fT (b : List Stmt) : Expr := match b with | [.For t _ _ _ _] => t | _ => .Name ⟨#[]⟩ ⟨0, 0, 0, 0⟩
def fB (b : List Stmt) : List Stmt := match b with | [.For _ _ b _ _] => b | _ => []
noncomputable abbrev sortLoop (P : Params) (L G : Nat) : Code := .forLoop (fT (bodyOf (fdOf P 65))) (.ref G) (fB (bodyOf (fdOf P 65))) [] (envSort P L)
noncomputable abbrev sortFr (P : Params) (L : Nat) (k : Result → Sem Fin) (p : Pos) : Frame := .ret k none false [] (.func (bodyOf (fdOf P 65)) (envSort P L)) p []

structure SortInv (prog : Program) (w : World) (s : Shared) (L G g : Nat) (gs : GenState) (ls : List (List Nat)) (R V U : Nat → Prop) : Prop where
  vars : At s L (VarsO [])
  gen : At s G (GenO g)
  st : s.gens[g]? = some gs
  does : GenDoes prog w 3 itemL ls gs R V U s
  ng : ¬ U g
  nV : ¬ V L ∧ ¬ V G ∧ L < G
  rl : ∀ b, R b → b < L
  vl : ∀ b, V b → Live s b
  v88 : ∀ b, V b → 88 ≤ b
  l88 : 88 ≤ L ∧ 88 ≤ G

section
variable {prog : Program} {w : World}

theorem over_fit {A : Around} {d e : Nat} {c : Code} {fs : List Frame} (hA : Fit d A) (hh : (A.over c fs).handled = A.handled) (hd : frameCount (fs.map Frame.where_) + c.weight + e ≤ d) : Fit e (A.over c fs) :=
  ⟨hh.trans hA.handled, by have := hA.depth; show A.depth + frameCount (fs.map Frame.where_) + c.weight + e < recursionLimit; omega⟩

theorem itemL_heap {l : List Nat} (v : Value) (V' : Nat → Prop) (s1 s2 s3 s4 : Shared) (h : itemL l v V' s1 s2) (e1 : s3.heap = s1.heap) (e2 : s4.heap = s2.heap) : itemL l v V' s3 s4 := by
  obtain ⟨O, h1, ⟨o, g, r⟩, h3, h4⟩ := h
  exact ⟨O, h1, ⟨o, e2 ▸ g, r⟩, h3, e1 ▸ h4.1, h4.2⟩

theorem SortInv.kp {s s' : Shared} {L G g : Nat} {gs : GenState} {ls : List (List Nat)} {R V U P : Nat → Prop} (x : SortInv prog w s L G g gs ls R V U) (e : Kp P No s s')
    (hp : ∀ b, P b → b ≠ L ∧ b ≠ G ∧ ¬ R b ∧ ¬ V b) : SortInv prog w s' L G g gs ls R V U :=
  ⟨x.vars.kp e fun h => (hp _ h).1 rfl, x.gen.kp e fun h => (hp _ h).2.1 rfl, e.gkeep _ _ id x.st, x.does.kp e (fun b h => (hp b h).2.2) (fun _ h => h.elim), x.ng, x.nV, x.rl, fun b hb => (x.vl b hb).kp e fun h => (hp b h).2.2.2 hb, x.v88, x.l88⟩

abbrev SortGoal (prog : Program) (w : World) (L G g : Nat) (R : Nat → Prop) (k : Result → Sem Fin) (p : Pos) (ls : List (List Nat)) : Prop :=
  ∀ s gs V U A, SortInv prog w s L G g gs ls R V U → Fit 8 A → Bs w s.heap →
      Sg (model prog w) A (GenPost prog w 8 itemI ls.flatten R (fun b => b = L ∨ b = G ∨ V b) (fun i => i = g ∨ U i) s) (sortLoop w.params L G) ((model prog w).den (sortLoop w.params L G)) [sortFr w.params L k p] s

theorem sort_inner {L G g : Nat} {R : Nat → Prop} {k k' : Result → Sem Fin} {p p' : Pos} (hk' : k' (.ok (.ret .none)) = .pure (.again (sortLoop w.params L G))) {l : List Nat} {ls : List (List Nat)} (ih : SortGoal prog w L G g R k p ls) {IT O : Nat} {gs : GenState} {V U : Nat → Prop}
    (hIO : IT ≠ L ∧ IT ≠ G ∧ IT ≠ O ∧ ¬ R IT ∧ ¬ V IT ∧ ¬ V O ∧ 88 ≤ IT ∧ 88 ≤ O) :
    ∀ m i s A, l.length - i = m → SortInv prog w s L G g gs ls R V U → At s IT (IterO O i) → At s O (NatsO l) → Fit 8 A → Bs w s.heap →
      Sg (model prog w) A (GenPost prog w 8 itemI (l.drop i ++ ls.flatten) R (fun b => b = L ∨ b = G ∨ b = IT ∨ b = O ∨ V b) (fun i => i = g ∨ U i) s) (yfc IT) ((model prog w).den (yfc IT))
        [.ret k' none false [] (sortLoop w.params L G) p' [], sortFr w.params L k p] s := by
  intro m
  induction m with
  | zero =>
    intro i s A hm x hi hO hA B
    obtain ⟨vs, hl, hv⟩ := natsO_list hO
    refine yf_end hi hl (by rw [List.getElem?_eq_none]; rw [hv.length]; omega) hA.handled fun s1 e1 => ?_
    refine sg_leaf _ ?_
    rw [hk']
    refine sg_again rfl ?_
    have x1 := x.kp e1 (fun b hb => by subst hb; exact ⟨hIO.1, hIO.2.1, hIO.2.2.2.1, hIO.2.2.2.2.1⟩)
    rw [List.drop_eq_nil_of_le (by omega), List.nil_append]
    refine sg_mono (ih s1 gs V U A x1 hA (B.kp e1 fun b hb => by omega)) fun e s2 h2 => ?_
    refine h2.before (e1.mono (fun b _ _ h => .inr (.inr (.inl h))) fun _ _ h => h.elim) (fun _ h => h) (fun b hb => .inl ?_) (fun i hi => .inl hi) (fun x v V1 h => h)
    rcases hb with h | h | h
    · exact .inl h
    · exact .inr (.inl h)
    · exact .inr (.inr (.inr (.inr h)))
  | succ m ihm =>
    intro i s A hm x hi hO hA B
    obtain ⟨vs, hl, hv⟩ := natsO_list hO
    have hlt : i < l.length := by omega
    obtain ⟨t, ht⟩ := hv.get (List.getElem?_eq_getElem hlt)
    refine yf_item hi hl ht rfl fun s1 e1 i1 g' l' kk p1 hg hres => ?_
    subst hg
    rw [List.drop_eq_getElem_cons hlt, List.cons_append]
    have x1 := x.kp e1 (fun b hb => by subst hb; exact ⟨hIO.1, hIO.2.1, hIO.2.2.2.1, hIO.2.2.2.2.1⟩)
    have hO1 := hO.kp e1 (Ne.symm hIO.2.2.1)
    refine ⟨_, rfl, rfl, e1.mono (fun b _ _ h => .inr (.inr (.inl h))) (fun _ _ h => h.elim), _, _, fun b hb => .inl hb, fun b hb => ?_, fun i hi => .inl hi, ⟨t, rfl⟩, ?_⟩
    · rcases hb with rfl | rfl | rfl | rfl | hb
      · exact x1.vars.live
      · exact x1.gen.live
      · exact i1.live
      · exact hO1.live
      · exact x1.vl b hb
    refine genDoes_iff.mpr fun A' s8 hA' hs8 => ?_
    show Sg _ A' _ _ (kk (.send .none)) _ s8
    have old : ∀ {a φ}, (a = L ∨ a = G ∨ a = IT ∨ a = O ∨ V a) → At s1 a φ → At s8 a φ := fun ha ⟨o, g, r⟩ => ⟨o, hs8.heap _ o (.inr ha) g, r⟩
    have i8 : At s8 IT _ := old (.inr (.inr (.inl rfl))) i1
    refine hres A' _ s8 i8 ?_
    refine ihm (i + 1) s8 A' (by omega) ?_ i8 (old (.inr (.inr (.inr (.inl rfl)))) hO1) hA' hs8.base
    refine ⟨old (.inl rfl) x1.vars, old (.inr (.inl rfl)) x1.gen, hs8.gens _ _ (.inl rfl) x1.st, ?_, x1.ng, x1.nV, x1.rl, fun b hb => let ⟨o, g⟩ := x1.vl b hb; ⟨o, hs8.heap b o (.inr (.inr (.inr (.inr (.inr hb))))) g⟩, x1.v88, x1.l88⟩
    refine x1.does.on (fun b o hb g => hs8.heap b o ?_ g) (fun i z hi g => hs8.gens i z (.inr hi) g) hs8.size
    rcases hb with hb | hb
    · exact .inl hb
    · exact .inr (.inr (.inr (.inr (.inr hb))))

theorem sort_loop {L G g : Nat} {R : Nat → Prop} {k : Result → Sem Fin} {p : Pos} (hk : k (.ok .next) = .pure (.done (.ret .none))) :
    ∀ ls s gs V U A, SortInv prog w s L G g gs ls R V U → Fit 8 A → Bs w s.heap →
      Sg (model prog w) A (GenPost prog w 8 itemI ls.flatten R (fun b => b = L ∨ b = G ∨ V b) (fun i => i = g ∨ U i) s) (sortLoop w.params L G) ((model prog w).den (sortLoop w.params L G)) [sortFr w.params L k p] s := by
  intro ls
  induction ls with
  | nil =>
    intro s gs V U A x hA B
    refine sg_forLoop ?_
    have hf : Fit 3 (A.over (sortLoop w.params L G) [sortFr w.params L k p]) := over_fit hA rfl (Nat.le_of_ble_eq_true rfl)
    refine x.does.stop hf B x.gen x.st x.ng fun s1 e1 => ?_
    intro c
    refine sg_leaf _ ?_
    rw [hk]
    show Sg _ A _ _ (leafOf (.ok (.ret .none))) _ s1
    exact sg_end _ ⟨rfl, e1.mono (fun b _ _ h => .inr (.inr h)) fun i _ h => h.symm⟩
  | cons l ls ih =>
    intro s gs V U A x hA B
    refine sg_forLoop ?_
    have hf : Fit 3 (A.over (sortLoop w.params L G) [sortFr w.params L k p]) := over_fit hA rfl (Nat.le_of_ble_eq_true rfl)
    refine x.does.next hf B x.gen x.st x.ng itemL_heap fun v s1 gs1 V1 U1 e1 st1 hV1 hL1 hU1 hit d1 => ?_
    obtain ⟨O, rfl, hO, hVO, hON⟩ := hit
    refine owned_name ?_
    refine wpAny_assign_Name ?_
    refine st_local [] (x.vars.kp e1 x.nV.1) (by simp) (fun s2 e2 l2 => ?_)
    intro H
    refine sg_cons ?_
    have B1 : Bs w s1.heap := B.kp e1 x.v88
    have B2 : Bs w s2.heap := B1.kp e2 (fun b hb => by have := x.l88; omega)
    have hV1' : ∀ b, V1 b → b ≠ L ∧ b ≠ G ∧ 88 ≤ b := fun b hb => by
      have := x.nV
      rcases hV1 b hb with h | h
      · refine ⟨?_, ?_, x.v88 b h⟩
        · rintro rfl; exact x.nV.1 h
        · rintro rfl; exact x.nV.2.1 h
      · exact ⟨Ne.symm (h.ne x.vars), Ne.symm (h.ne x.gen), h.2⟩
    have hO2 : At s2 O (NatsO l) := hO.kp e2 (by
      rintro rfl
      obtain ⟨o, g1, vs, ⟨_, _, n, hd⟩, _⟩ := hO
      obtain ⟨m, h1, _⟩ := vars_ns (x.vars.kp e1 x.nV.1)
      obtain ⟨o', es, ep, g2, hd', _⟩ := h1
      rw [g1] at g2; cases g2
      rw [hd] at hd'; cases hd')
    have x2 : SortInv prog w s2 L G g gs1 ls R V1 U1 := by
      refine ⟨vars_sub l2 (by simp), (x.gen.kp e1 x.nV.2.1).kp e2 (by have := x.nV; omega), e2.gkeep _ _ id st1, d1.kp e2 (fun b hb => ?_) (fun _ h => h.elim), fun h => (hU1 g h).2 rfl,
        ⟨fun h => (hV1' _ h).1 rfl, fun h => (hV1' _ h).2.1 rfl, x.nV.2.2⟩, x.rl, fun b hb => (hL1 b hb).kp e2 (fun h => (hV1' b hb).1 h), fun b hb => (hV1' b hb).2.2, x.l88⟩
      subst hb
      exact ⟨fun h => by have := x.rl _ h; omega, fun h => (hV1' _ h).1 rfl⟩
    obtain ⟨vs, hOl, hvs⟩ := natsO_list hO2
    refine sg_YieldFrom ?_
    refine ev_local l2 (.head _) ?_
    refine wpAny_typeOf (listO_typeIs hOl) ⟨by decide, ?_⟩
    refine iter_list hOl fun s3 IT e3 hIT i3 => ?_
    intro p' k' hk'
    have x3 := x2.kp e3 (fun _ h => h.elim)
    have hO3 := hO2.kp e3 id
    have B3 := B2.kp e3 (fun _ h => h.elim)
    have ltL := l2.lt; have ltG := x2.gen.lt; have ltO := hO2.lt; have hsz := B2.size
    have hITne : ∀ {a φ}, At s2 a φ → a ≠ IT := fun h => by have := h.lt; omega
    have hIO : IT ≠ L ∧ IT ≠ G ∧ IT ≠ O ∧ ¬ R IT ∧ ¬ V1 IT ∧ ¬ V1 O ∧ 88 ≤ IT ∧ 88 ≤ O := by
      refine ⟨Ne.symm (hITne l2), Ne.symm (hITne x2.gen), Ne.symm (hITne hO2), fun h => ?_, fun h => ?_, hVO, by omega, hON.2⟩
      · have := x.rl _ h; omega
      · have := (x2.vl _ h).lt; omega
    have hmain := sort_inner (k' := k') (p' := p') (p := p) (by rw [hk']; rfl) ih hIO (l.length - 0) 0 s3 A rfl x3 i3 hO3 hA B3
    refine sg_mono hmain fun e s4 h4 => ?_
    rw [List.drop_zero] at h4
    rw [List.flatten_cons]
    have kAll : Kp (fun b => b = L ∨ b = G ∨ V b) (fun i => i = g ∨ U i) s s3 :=
      ((e1.mono (fun b _ _ h => .inr (.inr h)) fun i _ h => h.symm).trans (e2.mono (fun b _ _ h => .inl h) fun _ _ h => h.elim)).trans (e3.mono (fun b _ _ h => h.elim) fun _ _ h => h.elim)
    refine h4.before kAll (fun _ h => h) (fun b hb => ?_) (fun i hi => ?_) (fun x v V1 h => h)
    · rcases hb with h | h | h | h | h
      · exact .inl (.inl h)
      · exact .inl (.inr (.inl h))
      · subst h
        have hn : New s2 b := ⟨by
          cases e : s2.heap.get? b with
          | none => rfl
          | some o => have := get_lt e; omega, by omega⟩
        rcases hn.kp e2 with h | h
        · exact .inl (.inl h)
        · rcases h.kp e1 with h | h
          · exact .inl (.inr (.inr h))
          · exact .inr h
      · subst h; exact .inr hON
      · rcases hV1 b h with h | h
        · exact .inl (.inr (.inr h))
        · exact .inr h
    · rcases hi with h | h
      · exact .inl (.inl h)
      · rcases (hU1 i h).1 with h | h
        · exact .inl (.inr h)
        · exact .inr h
end
end Mine
end Sort1Part

section SubMPart
open PySem PySem.W PyProof.Rows PySem.Calls
namespace Mine

/-- a sleeping generator object -/
structure GenAt {α : Type} (prog : Program) (w : World) (d : Nat) (item : α → Value → (Nat → Prop) → Shared → Shared → Prop) (xs : List α) (s : Shared) (G g : Nat) (R V U : Nat → Prop) : Prop where
  gen : At s G (GenO g)
  st : ∃ gs, s.gens[g]? = some gs ∧ GenDoes prog w d item xs gs R V U s
  ng : ¬ U g
  nV : ¬ V G
  vl : ∀ b, V b → Live s b
  v88 : ∀ b, V b → 88 ≤ b
  g88 : 88 ≤ G

section
variable {α : Type} {prog : Program} {w : World} {A : Around} {E : Value → Shared → Prop} {s : Shared} {d : Nat} {item : α → Value → (Nat → Prop) → Shared → Shared → Prop} {xs : List α} {G g : Nat} {R V U : Nat → Prop}

theorem GenAt.kp {s' : Shared} {P D : Nat → Prop} (x : GenAt prog w d item xs s G g R V U) (e : Kp P D s s') (hp : ∀ b, P b → b ≠ G ∧ ¬ R b ∧ ¬ V b) (hd : ∀ i, D i → i ≠ g ∧ ¬ U i) : GenAt prog w d item xs s' G g R V U := by
  obtain ⟨gs, h1, h2⟩ := x.st
  exact ⟨x.gen.kp e fun h => (hp _ h).1 rfl, ⟨gs, e.gkeep _ _ (fun h => (hd _ h).1 rfl) h1, h2.kp e (fun b h => (hp b h).2) fun i h => (hd i h).2⟩, x.ng, x.nV, fun b hb => (x.vl b hb).kp e fun h => (hp b h).2.2 hb, x.v88, x.g88⟩

theorem GenAt.next {x : α} {Q : Option Value → Shared → Prop} (h : GenAt prog w d item (x :: xs) s G g R V U) (hA : Fit d A) (B : Bs w s.heap)
    (hi : ∀ v V' s1 s2 s3 s4, item x v V' s1 s2 → s3.heap = s1.heap → s4.heap = s2.heap → item x v V' s3 s4)
    (hQ : ∀ v s' V' U', Kp V (fun i => U i ∨ i = g) s s' → Bs w s'.heap → (∀ b, V' b → V b ∨ New s b) → (∀ i, U' i → U i ∨ s.gens.size ≤ i) → item x v V' s s' → GenAt prog w d item xs s' G g R V' U' → Q (some v) s') :
    wpAny (model prog w) A (pyNext (.ref G)) Q E s := by
  obtain ⟨gs, h1, h2⟩ := h.st
  refine h2.next hA B h.gen h1 h.ng hi fun v s1 gs1 V1 U1 e1 st1 hV1 hL1 hU1 hit d1 => ?_
  refine hQ v s1 V1 U1 e1 (B.kp e1 h.v88) hV1 (fun i hi => (hU1 i hi).1) hit ⟨h.gen.kp e1 h.nV, ⟨gs1, st1, d1⟩, fun hg => (hU1 g hg).2 rfl, fun hg => ?_, hL1, fun b hb => ?_, h.g88⟩
  · rcases hV1 _ hg with h' | h'
    · exact h.nV h'
    · exact h'.ne h.gen rfl
  · rcases hV1 _ hb with h' | h'
    · exact h.v88 b h'
    · exact h'.2

theorem GenAt.stop {Q : Option Value → Shared → Prop} (h : GenAt prog w d item [] s G g R V U) (hA : Fit d A) (B : Bs w s.heap)
    (hQ : ∀ s', Kp V (fun i => U i ∨ i = g) s s' → Bs w s'.heap → Q none s') :
    wpAny (model prog w) A (pyNext (.ref G)) Q E s := by
  obtain ⟨gs, h1, h2⟩ := h.st
  exact h2.stop hA B h.gen h1 h.ng fun s' e => hQ s' e (B.kp e h.v88)
end

/-- what a call of the sorting functions is given -/
structure Given (s : Shared) (R : Nat → Prop) (P I : Nat) (ps : List (Nat × Nat)) (items : List Nat) : Prop where
  pairs : PairsR s R P ps
  itms : At s I (NatsO items)
  rI : R I
  rl : ∀ b, R b → Live s b
  p7 : ∀ p ∈ ps, p.1 < 7 ∧ p.2 < 7
  i7 : ∀ x ∈ items, x < 7
  len : items.length ≤ 7
  acy : Acy (kvOf true ps)

theorem Given.kp {s s' : Shared} {R P D : Nat → Prop} {T I : Nat} {ps items} (x : Given s R T I ps items) (e : Kp P D s s') (hp : ∀ b, P b → ¬ R b) : Given s' R T I ps items :=
  ⟨x.pairs.on fun b o hb g => e.keep b o (fun h => hp b h hb) g, x.itms.kp e fun h => hp _ h x.rI, x.rI, fun b hb => (x.rl b hb).kp e fun h => hp b h hb, x.p7, x.i7, x.len, x.acy⟩

section
variable {prog : Program} {w : World} {A : Around} {E : Value → Shared → Prop} {s : Shared} {R : Nat → Prop} {P I : Nat} {ps : List (Nat × Nat)} {items : List Nat}

theorem sub_make {Q : Value → Shared → Prop} (B : Bs w s.heap) (hroom : A.depth < recursionLimit) (x : Given s R P I ps items)
    (hQ : ∀ s' G g V, Kp No No s s' → Above s G → s.gens.size ≤ g → (∀ b, V b → Above s b) → GenAt prog w 3 itemL (peel (kvOf true ps) items.length items) s' G g R V No → Q (.ref G) s') :
    wpAny (model prog w) A (call (.ref 57) [.ref P, .ref I]) Q E s := by
  refine sub_create B hroom fun s' G g L e1 hL hG hLG hg gG stg l1 c1 => ?_
  have x1 := x.kp e1 (fun _ h => h.elim)
  have h88 : ∀ {v : Nat}, Above s v → 88 ≤ v := fun h => by have := h 87 _ (B.K 87 _ rfl); omega
  have hL1 : Above s (L + 1) := fun b o g => by have := hL b o g; omega
  refine hQ s' G g _ e1 hG hg (fun b hb => ?_) ⟨gG, ⟨_, stg, sub_fresh l1 c1 (h88 hL) x1.pairs x1.itms x1.rI (fun b hb => let ⟨o, g⟩ := x.rl b hb; hL b o g) x1.p7 x1.i7 x1.len x1.acy⟩, id, ?_, ?_, ?_, h88 hG⟩
  · rcases hb with rfl | rfl
    · exact hL
    · exact hL1
  · omega
  · rintro b (rfl | rfl)
    · exact l1.live
    · exact c1.live
  · rintro b (rfl | rfl)
    · exact h88 hL
    · exact h88 hL1

theorem call_fn {env : Env} {pos : Pos} {a : Nat} {o : Obj} {fd : FuncData} {e : Expr} {rest : List Expr} {Q : Value → Shared → Prop} (hK : (Mine.hd.heap_39 w.params).lookup a = some o) (hd : o.data = .func fd)
    (h : wpAny (model prog w) A (spliced (backTo pos (starEach (e :: rest) env))) (fun vs s₁ => Bs w s₁.heap ∧ wpAny (model prog w) A (call (.ref a) vs) Q E s₁) E s)
    (he : starEach (e :: rest) env = (false, eval e env) :: starEach rest env := by rfl) :
    wpAny (model prog w) A (callWith pos (.ref a) [] (backTo pos (starEach (e :: rest) env)) []) Q E s :=
  callWith_def hd (wpAny_mono h (fun vs s₁ h₁ => ⟨h₁.1.K a o hK, h₁.2⟩) fun _ _ x => x) he

theorem pyIter_gen {G g : Nat} {Q : Value → Shared → Prop} (h : At s G (GenO g)) (hQ : Q (.ref G) s) : wpAny (model prog w) A (pyIter (.ref G)) Q E s := wpAny_pyIter_gen (gen_is h) hQ

theorem sort_fresh {L : Nat} (hL : At s L (VarsO [(Str.ofString "tuples", .ref P), (Str.ofString "allitems", .ref I)])) (hn : 88 ≤ L) (x : Given s R P I ps items) (hRL : ∀ b, R b → b < L) :
    GenDoes prog w 8 itemI (peel (kvOf true ps) items.length items).flatten (.fresh (.func (bodyOf (fdOf w.params 65)) (envSort w.params L))) R (fun b => b = L) No s := by
  refine genDoes_iff.mpr fun A s0 hA hs => ?_
  have B := hs.base
  have hL0 : At s0 L _ := let ⟨o, g, r⟩ := hL; ⟨o, hs.heap L o (.inr rfl) g, r⟩
  have hI0 : At s0 I _ := let ⟨o, g, r⟩ := x.itms; ⟨o, hs.heap I o (.inl x.rI) g, r⟩
  have hP0 := (x.pairs.on fun b o hb g => hs.heap b o (.inl hb) g)
  have hR0 : ∀ b, R b → Live s0 b := fun b hb => let ⟨o, g⟩ := x.rl b hb; ⟨o, hs.heap b o (.inl hb) g⟩
  have x0 : Given s0 R P I ps items := ⟨hP0, hI0, x.rI, hR0, x.p7, x.i7, x.len, x.acy⟩
  clear hL hI0 hP0 hR0 hs
  show Sg _ A _ (.func _ _) ((model prog w).den (.func _ _)) [] s0
  refine sg_func fun H => ?_
  refine sg_cons ?_
  refine sg_For ?_
  refine Call_ ?_
  refine ev_global B (.ref 57) ?_
  refine call_fn (fd := fdOf w.params 57) rfl rfl ?_
  refine spliced_cons ?_
  refine ev_local hL0 (.head _) ?_
  refine spliced_cons ?_
  refine ev_local hL0 (.tail _ (.head _)) ?_
  refine spliced_nil ⟨B, ?_⟩
  have hroom : (A.over (.func (bodyOf (fdOf w.params 65)) (envSort w.params L)) []).depth < recursionLimit := (over_fit (e := 0) hA rfl (Nat.le_of_ble_eq_true rfl)).depth
  refine sub_make B hroom x0 fun s1 G g V e1 hG hg hV g1 => ?_
  refine pyIter_gen g1.gen ?_
  intro p k hk
  obtain ⟨gs, st, does⟩ := g1.st
  have hLG : L < G := hL0.above hG
  have hx : SortInv prog w s1 L G g gs (peel (kvOf true ps) items.length items) R V No :=
    ⟨vars_sub (hL0.kp e1 id) (by simp), g1.gen, st, does, g1.ng, ⟨fun h => by have := hL0.above (hV _ h); omega, g1.nV, hLG⟩, hRL, g1.vl, g1.v88, hn, g1.g88⟩
  refine sg_mono (sort_loop (p := p) (by rw [hk]; rfl) _ s1 gs V No A hx hA (B.kp e1 fun _ h => h.elim)) fun e s2 h2 => ?_
  refine h2.before (kp_no e1) (fun _ h => h) (fun b hb => ?_) (fun i hi => ?_) (fun x v V1 h => h)
  · rcases hb with h | h | h
    · exact .inl h
    · subst h; exact .inr (New.of_above hG g1.g88)
    · exact .inr (New.of_above (hV b h) (g1.v88 b h))
  · rcases hi with h | h
    · exact .inr (by omega)
    · exact h.elim
end
end Mine
end SubMPart

section SortMPart
open PySem PySem.W PyProof.Rows PySem.Calls
namespace Mine
section
variable {prog : Program} {w : World} {A : Around} {E : Value → Shared → Prop} {s : Shared} {R : Nat → Prop} {P I : Nat} {ps : List (Nat × Nat)} {items : List Nat}

theorem sort_create {t i : Value} {Q : Value → Shared → Prop} (B : Bs w s.heap) (hroom : A.depth < recursionLimit)
    (hQ : ∀ s' G g L, Kp No No s s' → Above s L → Above s G → L < G → s.gens.size ≤ g → At s' G (GenO g) → s'.gens[g]? = some (.fresh (.func (bodyOf (fdOf w.params 65)) (envSort w.params L))) →
      At s' L (VarsO [(Str.ofString "tuples", t), (Str.ofString "allitems", i)]) → Q (.ref G) s') :
    wpAny (model prog w) A (call (.ref 65) [t, i]) Q E s := by
  refine wpAny_call ?_
  have g65 := B.K 65 _ rfl
  have g64 := B.K 64 _ rfl
  have g58 := B.K 58 _ rfl
  refine codeAny_call_generator (fd := fdOf w.params 65) (body := bodyOf (fdOf w.params 65)) hroom g65 rfl rfl rfl rfl ⟨64, _, _, _, rfl, g64, rfl, rfl⟩ ?_
  let bs : List (Str × Value) := [(Str.ofString "tuples", t), (Str.ofString "allitems", i), (Str.ofString "deterministic_order", .bool true)]
  have hb : BindsTo s (fdOf w.params 65) ⟨[t, i], []⟩ bs := BindsTo.of_defaults (T := 58) rfl g58 rfl rfl rfl
  refine hb _ _ _ _ ?_
  refine wpAny_newFunctionEnv_cells rfl ?_ fun env he s1 x => ?_
  · intro p hp
    simp only [bs, List.mem_cons, List.not_mem_nil, or_false] at hp
    rcases hp with rfl | rfl | rfl <;> exact .inl rfl
  · obtain ⟨h', tk, hs, hk⟩ := x.done
    have hL : env.locals = s.heap.objs.size := by rw [he]; rfl
    have hns := x.toInCall.ns
    rw [hL] at hns
    have hv1 : bindL env.kindOf bs (fun _ => none) "tuples" = some t := by rw [he]; rfl
    have hv2 : bindL env.kindOf bs (fun _ => none) "allitems" = some i := by rw [he]; rfl
    have hvars : At s1 s.heap.objs.size (VarsO [(Str.ofString "tuples", t), (Str.ofString "allitems", i)]) := vars_of hns fun p hp => by
      simp only [List.mem_cons, List.not_mem_nil, or_false] at hp
      rcases hp with rfl | rfl
      · exact hv1
      · exact hv2
    have hlt := hvars.lt
    have hke : Kp No No s s1 := by rw [hs]; exact Kp.keeps hk
    have hkp : ∀ {o : Obj} {P : Nat → Prop}, Kp P No s1 { s1 with gens := s1.gens.push (.fresh (.func (bodyOf (fdOf w.params 65)) env)), toks := s1.toks + 1 + 1, heap := s1.heap.push o } := Kp.gens rfl fun b o hb => Heap.get?_push_of_some _ hb
    have hgs : s1.gens = s.gens := by rw [hs]
    refine ⟨B.nolimit.keeps (fun b o e => hke.keep b o id e), hQ _ s1.heap.objs.size s1.gens.size s.heap.objs.size (hke.trans hkp) (above_le (Nat.le_refl _)) (above_le (by omega)) hlt (by rw [hgs]; exact Nat.le_refl _) ?_ ?_ ?_⟩
    · exact ⟨_, Heap.get?_push_size _ rfl, _, _, rfl, rfl, rfl⟩
    · show (s1.gens.push _)[s1.gens.size]? = _
      rw [Array.getElem?_push, if_pos rfl, he]
      rfl
    · exact hvars.kp (hkp (P := No)) id

theorem sort_make {Q : Value → Shared → Prop} (B : Bs w s.heap) (hroom : A.depth < recursionLimit) (x : Given s R P I ps items)
    (hQ : ∀ s' G g V, Kp No No s s' → Above s G → s.gens.size ≤ g → (∀ b, V b → Above s b) → GenAt prog w 8 itemI (peel (kvOf true ps) items.length items).flatten s' G g R V No → Q (.ref G) s') :
    wpAny (model prog w) A (call (.ref 65) [.ref P, .ref I]) Q E s := by
  refine sort_create B hroom fun s' G g L e1 hL hG hLG hg gG stg l1 => ?_
  have x1 := x.kp e1 (fun _ h => h.elim)
  have h88 : ∀ {v : Nat}, Above s v → 88 ≤ v := fun h => by have := h 87 _ (B.K 87 _ rfl); omega
  refine hQ s' G g _ e1 hG hg (fun b hb => ?_) ⟨gG, ⟨_, stg, sort_fresh l1 (h88 hL) x1 (fun b hb => let ⟨o, g⟩ := x.rl b hb; hL b o g)⟩, id, ?_, ?_, ?_, h88 hG⟩
  · subst hb; exact hL
  · omega
  · rintro b rfl; exact l1.live
  · rintro b rfl; exact h88 hL
end
end Mine
end SortMPart

section Sets7Part
open PySem PySem.W PyProof.Rows PySem.Calls
namespace Mine

theorem below_ge (xs : Array Nat) (j : Nat) (hs : ∀ a b (ha : a < xs.size) (hb : b < xs.size), a ≤ b → xs[a] ≤ xs[b]) : ∀ fuel lo hi, hi - lo ≤ fuel → hi ≤ xs.size → (∀ i (h : i < xs.size), hi ≤ i → j ≤ xs[i]) →
    ∀ i (h : i < xs.size), SetTable.below.go xs j fuel lo hi ≤ i → j ≤ xs[i] := by
  intro fuel
  induction fuel with
  | zero =>
    intro lo hi hf hh hr i h hi'
    rw [SetTable.below.go] at hi'
    exact hr i h (by omega)
  | succ n ih =>
    intro lo hi hf hh hr i h hi'
    rw [SetTable.below.go] at hi'
    by_cases hlt : lo < hi
    · rw [if_pos hlt] at hi'
      dsimp only at hi'
      have hm : (lo + hi) / 2 < xs.size := by omega
      have hd : xs.getD ((lo + hi) / 2) j = xs[(lo + hi) / 2] := by simp [Array.getD, hm]
      rw [hd] at hi'
      by_cases hc : xs[(lo + hi) / 2] < j
      · rw [if_pos hc] at hi'
        exact ih _ _ (by omega) hh hr i h hi'
      · rw [if_neg hc] at hi'
        refine ih _ _ (by omega) (by omega) (fun i' h' hi2 => ?_) i h hi'
        have := hs _ i' hm h' hi2
        omega
    · rw [if_neg hlt] at hi'
      exact hr i h (by omega)

theorem pick_go {α : Type} (next : Nat → Nat) : ∀ fuel k (left : List α) (out : Array α), (pickOrder.go next fuel k left out).size ≤ out.size + fuel ∧ ∀ x ∈ pickOrder.go next fuel k left out, x ∈ out ∨ x ∈ left := by
  intro fuel
  induction fuel with
  | zero => intro k left out; rw [pickOrder.go]; exact ⟨by omega, fun x h => .inl h⟩
  | succ n ih =>
    intro k left out
    rw [pickOrder.go]
    cases h : left[next k % left.length]? with
    | none => exact ⟨by show out.size ≤ _; omega, fun x h => .inl h⟩
    | some y =>
      obtain ⟨h1, h2⟩ := ih (k + 1) (left.eraseIdx (next k % left.length)) (out.push y)
      refine ⟨by rw [Array.size_push] at h1; show (pickOrder.go _ _ _ _ _).size ≤ _; omega, fun x hx => ?_⟩
      rcases h2 x hx with h' | h'
      · rcases Array.mem_push.mp h' with h' | h'
        · exact .inl h'
        · subst h'; exact .inr (List.mem_of_getElem? h)
      · exact .inr (List.mem_of_mem_eraseIdx h')

/-- a set's iterator with at most n steps to go -/
def SItO (w : World) (S : Nat) (o : Obj) (n : Nat) (oi : Obj) : Prop := oi.cls = .type "set_iterator" ∧ ∃ (slot i ep : Nat) (es : Array (Int × Value)) (t : SetTable), o.data = .set es ep t ∧
  oi.data = .fields #[.int slot 0, .int i 0, .ref S, .int es.size 0, .int ep 0] ∧ (w.params.followText "set-order" = true → es.size ≤ i + n) ∧ (w.params.followText "set-order" = false → 7 ≤ slot + n)

theorem slot_setiter_next : Slot "set_iterator" "__next__" "set_iterator.__next__" :=
  .of (owner := "set_iterator") (n := "__next__") (by rw [typeLookup_type, builtinLookup_eq_fast]; kernel_rfl) (by decide +kernel) (by decide +kernel) (by decide +kernel)
    (by first | exact .inl (by decide +kernel) | exact .inr (by decide +kernel)) (by rw [isSubtype_type]; kernel_rfl)
theorem entry_setiter_next : entryFor table "set_iterator.__next__" = some Builtin.«set_iterator.__next__» := entryFor_of_tree (by kernel_rfl)
theorem args_setiter_next (a : Value) : argsOk "set_iterator.__next__" ⟨[a], []⟩ := by unfold argsOk; kernel_rfl
theorem entry_set_iter : entryFor table "set.__iter__" = some Builtin.«frozenset.__iter__» :=
  entryFor_alias (id' := "frozenset.__iter__") (by kernel_rfl) rfl (by decide +kernel) (by kernel_rfl)

section
variable {prog : Program} {w : World} {A : Around} {E : Value → Shared → Prop} {s : Shared} {a it : Nat} {c : Bool} {ks : List Nat}

theorem iter_set {o : Obj} (g : s.heap.get? a = some o) (hS : SetO (ledOf w) c ks o) {Q : Value → Shared → Prop} (hQ : ∀ s' it, Kp No No s s' → it = s.heap.objs.size → At s' it (SItO w a o 7) → Q (.ref it) s') :
    wpAny (model prog w) A (pyIter (.ref a)) Q E s := by
  have hT := setO_typeIs (a := a) (s := s) ⟨o, g, hS⟩
  obtain ⟨hex, es, ep, t, hd, x⟩ := id hS
  refine wpAny_pyIter_slot hT F.slot_set_iter (wpAny_call_entry F.slot_set_iter hT entry_set_iter ?_ (F.args_set_iter_1 _))
  unfold Builtin.«frozenset.__iter__»
  refine wpAny_bind (wpAny_of_eq (a := a) rfl ?_)
  refine wpAny_bind ?_
  unfold Builtin.Frozenset.sizeOf
  refine wpAny_bind (wpAny_setEntries_of g hd x.fits (wpAny_pure ?_))
  refine wpAny_bind ?_
  unfold setDrawn
  refine wpAny_bind (wpAny_setState_of g hd x.fits ?_)
  refine wpAny_bind ?_
  unfold setsByText
  refine wpAny_bind (wpAny_askSetting (wpAny_pure ?_))
  dsimp only
  have hp := x.plain
  have hle := x.fill
  have hsz := x.size
  cases t
  subst hp
  refine wpAny_of_eq (a := false) (congrArg pure (by cases (model prog w).w.params.followText "set-order" <;> rfl)) ?_
  rw [if_neg Bool.false_ne_true]
  refine wpAny_bind (wpAny_pure ?_)
  refine wpAny_bind (wpAny_setEpoch_of g hd x.fits ?_)
  refine wpAny_bind (wpAny_newObj_type ?_)
  refine wpAny_pure ⟨_, rfl, "set_iterator", _, ⟨_, Heap.get?_push_size _ rfl, rfl⟩, slot_setiter_next.lookup, ?_⟩
  refine hQ _ _ (Kp.push (tk := s.toks)) rfl (At.push rfl ⟨rfl, 0, 0, ep, es, _, hd, rfl, fun _ => by omega, fun _ => by omega⟩)

theorem setNext_ok {A : Around} {o : Obj} {es : Array (Int × Value)} {ep slot i : Nat} {t : SetTable} (g : s.heap.get? a = some o) (hd : o.data = .set es ep t) (x : SetD (ledOf w) c ks es t) {Q : Option (Value × Nat) → Shared → Prop}
    (hQ0 : Q none s) (hQ1 : ∀ (k : Nat) tok slot', k ∈ ks → (w.params.followText "set-order" = true → slot' = slot ∧ i < es.size) → (w.params.followText "set-order" = false → slot < slot' ∧ slot' ≤ 7) → Q (some (.int k tok, slot')) s) :
    wpAny (model prog w) A (setNext a slot i ep) Q E s := by
  unfold setNext
  refine wpAny_bind (wpAny_setState_of g hd x.fits ?_)
  dsimp only
  refine wpAny_bind ?_
  unfold setsByText
  refine wpAny_bind (wpAny_askSetting (wpAny_pure ?_))
  show wpAny _ _ (if w.params.followText "set-order" = true then _ else _) _ _ s
  cases hw : w.params.followText "set-order" with
  | true =>
    rw [if_pos rfl]
    simp only [bne_self_eq_false, Bool.false_eq_true, if_false]
    refine wpAny_bind ?_
    unfold setWalk
    refine wpAny_bind (wpAny_setState_of g hd x.fits ?_)
    dsimp only
    refine wpAny_bind ?_
    unfold setsByText
    refine wpAny_bind (wpAny_askSetting (wpAny_pure ?_))
    show wpAny _ _ (if w.params.followText "set-order" = true then _ else _) _ _ s
    rw [hw, if_pos rfl]
    refine wpAny_bind (wpAny_askSetting (wpAny_pure (wpAny_pure ?_)))
    cases hg : (pickOrder ((model prog w).w.params.setOrder a ep) es)[i]? with
    | none => exact hQ0
    | some e =>
      obtain ⟨hlt, he⟩ := Array.getElem?_eq_some_iff.mp hg
      obtain ⟨h1, h2⟩ := pick_go ((model prog w).w.params.setOrder a ep) es.size 0 es.toList #[]
      have hmem : e ∈ es.toList := by
        have := h2 e (he ▸ Array.getElem_mem hlt)
        rcases this with h | h
        · simp at h
        · exact h
      obtain ⟨k, hk, _, h3, tok, h4⟩ := x.mem hmem
      show Q (some (e.2, slot)) s
      rw [h4]
      refine hQ1 k tok slot hk (fun _ => ⟨rfl, ?_⟩) (fun h => by rw [hw] at h; cases h)
      have : (pickOrder ((model prog w).w.params.setOrder a ep) es).size ≤ es.size := by
        rw [show pickOrder ((model prog w).w.params.setOrder a ep) es = pickOrder.go ((model prog w).w.params.setOrder a ep) es.size 0 es.toList #[] from rfl]
        simpa using h1
      omega
  | false =>
    rw [if_neg Bool.false_ne_true]
    have hled : t.led = true := by rw [x.led]; unfold ledOf; rw [hw]; rfl
    have hp := x.plain
    have hplace := x.place
    have hmem := fun e => x.mem (e := e)
    have hsz := x.size
    have hlt7 := x.lt
    have hsort := x.sorted
    clear x hd
    cases t
    dsimp only at hp hled hplace
    subst hp hled
    refine wpAny_bind ?_
    refine wpAny_of_eq (a := PUnit.unit) rfl ?_
    rename_i mask place dummies finger moves
    refine wpAny_pure ?_
    show Q (match es[SetTable.below place slot]?, place[SetTable.below place slot]? with | some (_, x), some j => some (x, j + 1) | _, _ => none) s
    generalize hr : SetTable.below place slot = r
    cases he : es[r]? with
    | none => exact hQ0
    | some e =>
      cases hp : place[r]? with
      | none => exact hQ0
      | some j =>
        obtain ⟨hlt, he'⟩ := Array.getElem?_eq_some_iff.mp he
        obtain ⟨hlt', hp'⟩ := Array.getElem?_eq_some_iff.mp hp
        obtain ⟨k, hk, _, h3, tok, h4⟩ := hmem e (by rw [← he']; exact Array.getElem_mem_toList ..)
        show Q (some (e.2, j + 1)) s
        rw [h4]
        have hjks : j ∈ ks := by rw [← hplace, ← hp']; exact Array.getElem_mem_toList ..
        have hj7 := hlt7 j hjks
        have hge : slot ≤ j := by
          have hs : ∀ a b (ha : a < place.size) (hb : b < place.size), a ≤ b → place[a] ≤ place[b] := by
            intro a b ha hb hab
            rcases Nat.lt_or_eq_of_le hab with h | h
            · subst hplace
              have := (List.pairwise_iff_getElem.mp hsort) a b (by simpa using ha) (by simpa using hb) h
              simp at this
              omega
            · subst h; exact Nat.le_refl _
          have := below_ge place slot hs place.size 0 place.size (by omega) (Nat.le_refl _) (fun i h h' => by omega) r hlt' (by rw [← hr]; exact Nat.le_refl _)
          omega
        exact hQ1 k tok (j + 1) hk (fun h => by rw [hw] at h; cases h) (fun _ => by omega)

theorem next_set {o : Obj} {n : Nat} (hh : A.handled = none) (g : s.heap.get? a = some o) (hS : SetO (ledOf w) c ks o) (hi : At s it (SItO w a o n)) {Q : Option Value → Shared → Prop}
    (hQ1 : ∀ s' k tok, k ∈ ks → 0 < n → Kp (· = it) No s s' → At s' it (SItO w a o (n - 1)) → Q (some (.int (k : Nat) tok)) s') (hQ2 : ∀ s', Kp (· = it) No s s' → Q none s') :
    wpAny (model prog w) A (pyNext (.ref it)) Q E s := by
  obtain ⟨hex, es, ep, t, hd, x⟩ := id hS
  obtain ⟨oi, gi, hci, slot, i, ep', es', t', hd', hdi, hn1, hn2⟩ := id hi
  rw [hd] at hd'
  cases hd'
  have hT : s.TypeIs (.ref it) "set_iterator" := ⟨oi, gi, hci⟩
  unfold pyNext
  refine wpAny_bind (wpAny_attempt (wpAny_callSpecial?_slot (name := Str.ofString "__next__") hT slot_setiter_next (wpAny_call_entry slot_setiter_next hT entry_setiter_next ?_ (args_setiter_next _))))
  unfold Builtin.«set_iterator.__next__»
  refine wpAny_bind (wpAny_of_eq (a := (Value.ref it, [])) rfl ?_)
  refine wpAny_bind (wpAny_fieldsOf gi hdi ?_)
  dsimp only
  refine wpAny_bind (wpAny_setEntries_of g hd x.fits ?_)
  rw [if_neg (by simp)]
  refine wpAny_bind ?_
  refine setNext_ok g hd x ?_ ?_
  · dsimp only
    refine wpAny_bind (wpAny_setField gi hdi (by simp) ?_)
    refine wpAny_bind ?_
    simp only [newExc, newTuple]
    refine wpAny_bind (wpAny_newObj_type ?_ (by size_fits))
    refine wpAny_bind (m := firstArgMember _ _) (wpAny_of_eq (a := Value.none) (by first | rfl | (simp only [firstArgMember]; rfl)) ?_)
    refine wpAny_newObj_type ?_ (by size_fits)
    simp only [raiseNew]
    refine wpAny_bind (wpAny_handled ?_)
    rw [show A.in1.handled = none from hh]
    refine wpAny_bind (wpAny_pure (wpAny_throw ?_))
    refine wpAny_bind (wpAny_isInstance (T := "StopIteration") (b := true) ⟨_, Heap.get?_push_size _ rfl, rfl⟩ isSubtype_stop ?_)
    exact wpAny_pure (hQ2 _ (Kp.ext (tk := s.toks) (((Heap.SameBut.update s.heap it _).extBut.push _).push _)))
  · intro k tok slot' hk h1 h2
    dsimp only
    refine wpAny_bind (wpAny_setField gi hdi (by simp) ?_)
    have g1 := Heap.get?_update_self (Obj.mapFields fun x => x.setIfInBounds 0 (rawInt slot')) gi (Obj.isFreed_of_fields (Obj.data_mapFields hdi _))
    refine wpAny_bind (wpAny_setField g1 (Obj.data_mapFields hdi _) (by simp) ?_)
    refine wpAny_pure ⟨_, rfl, wpAny_pure ?_⟩
    refine hQ1 _ k tok hk ?_ ((Kp.same (tk := s.toks) (Heap.SameBut.update s.heap it _)).trans (Kp.same (tk := s.toks) (Heap.SameBut.update _ it _))) ?_
    · cases hw : w.params.followText "set-order" with
      | true => have := h1 hw; have := hn1 hw; omega
      | false => have := h2 hw; have := hn2 hw; omega
    · refine ⟨_, Heap.get?_update_self _ g1 (Obj.isFreed_of_fields (Obj.data_mapFields (Obj.data_mapFields hdi _) _)), ?_, ?_⟩
      · rw [Obj.cls_mapFields, Obj.cls_mapFields]; exact hci
      · refine ⟨slot', i + 1, ep, es, t, hd, ?_, fun hw => ?_, fun hw => ?_⟩
        · rw [Obj.data_mapFields (Obj.data_mapFields hdi _)]; simp [rawInt]
        · have := h1 hw; have := hn1 hw; omega
        · have := h2 hw; have := hn2 hw; omega
end
end Mine
end Sets7Part

section Sets8Part
open PySem PySem.W PyProof.Rows PySem.Calls
namespace Mine

theorem slot_dd_iter : Slot "collections.defaultdict" "__iter__" "dict.__iter__" :=
  .of (owner := "dict") (n := "__iter__") (by rw [typeLookup_type, builtinLookup_eq_fast]; kernel_rfl) (by decide +kernel) (by decide +kernel) (by decide +kernel)
    (by first | exact .inl (by decide +kernel) | exact .inr (by decide +kernel)) (by rw [isSubtype_type]; kernel_rfl)

/-- a defaultdict's key iterator at i -/
def KItO (d n ep i : Nat) (o : Obj) : Prop := o.cls = .type "dict_keyiterator" ∧ o.data = .fields #[.ref d, .int i 0, .int n 0, .int ep 0]
/-- the very object of the dict -/
def DDAt (tb : List (Nat × Nat)) (ep : Nat) (o : Obj) : Prop := ∃ es, o.data = .dict es ep ∧ EntsAre es tb

section
variable {prog : Program} {w : World} {A : Around} {E : Value → Shared → Prop} {s : Shared} {a d it : Nat} {c : Bool} {ks : List Nat} {tb : List (Nat × Nat)}

theorem iter_dd (h : At s d (DDO tb)) (hsys : d ≠ sysModules) {Q : Value → Shared → Prop} (hQ : ∀ s' it ep, Kp No No s s' → it = s.heap.objs.size → At s' it (KItO d tb.length ep 0) → At s' d (DDAt tb ep) → Q (.ref it) s') :
    wpAny (model prog w) A (pyIter (.ref d)) Q E s := by
  have hT := ddO_typeIs h
  obtain ⟨o, g, hc, hdi, hsl, es, ep, hd, hes⟩ := id h
  refine wpAny_pyIter_slot hT slot_dd_iter (wpAny_call_entry slot_dd_iter hT F.entry_dict_iter ?_ (F.args_dict_iter_1 _))
  unfold Builtin.«dict.__iter__»
  refine wpAny_bind ?_
  unfold Builtin.Dict.dictSlotNone
  refine wpAny_bind (notOrdered_dd hT ?_)
  show wpAny _ _ (pure (Value.ref d)) _ _ s
  refine wpAny_pure ?_
  show wpAny _ _ (Builtin.Dict.showsAll d >>= _) _ _ s
  unfold Builtin.Dict.showsAll
  rw [if_neg (by simpa using hsys)]
  refine wpAny_bind (wpAny_pure ?_)
  refine wpAny_bind (wpAny_dictEntries g hd ?_)
  refine wpAny_bind (wpAny_dictEpoch g hd ?_)
  refine wpAny_bind (wpAny_newObj_type (wpAny_pure ⟨_, rfl, "dict_keyiterator", _, ⟨_, Heap.get?_push_size _ rfl, rfl⟩, F.slot_dict_keyiterator_next.lookup, ?_⟩))
  refine hQ _ _ ep (Kp.push (tk := s.toks)) rfl (At.push rfl ⟨rfl, ?_⟩) ⟨o, Heap.get?_push_of_some _ g, es, hd, hes⟩
  simp [rawInt, hes.len]

theorem next_dd {i ep : Nat} (hh : A.handled = none) (hit : At s it (KItO d tb.length ep i)) (hm : At s d (DDAt tb ep)) {Q : Option Value → Shared → Prop}
    (hQ1 : ∀ (h : i < tb.length) s' t, Kp (· = it) No s s' → At s' it (KItO d tb.length ep (i + 1)) → Q (some (.int tb[i].1 t)) s') (hQ2 : tb.length ≤ i → ∀ s', Kp (· = it) No s s' → Q none s') :
    wpAny (model prog w) A (pyNext (.ref it)) Q E s := by
  obtain ⟨o, ho, hc, hd⟩ := id hit
  obtain ⟨od, hod, es, hdd, hes⟩ := id hm
  have hT : s.TypeIs (.ref it) "dict_keyiterator" := ⟨o, ho, hc⟩
  unfold pyNext
  refine wpAny_bind (wpAny_attempt (wpAny_callSpecial?_slot (name := Str.ofString "__next__") hT F.slot_dict_keyiterator_next
    (wpAny_call_entry F.slot_dict_keyiterator_next hT F.entry_dict_keyiterator_next ?_ (F.args_dict_keyiterator_next_1 _))))
  refine wpAny_bind (wpAny_pure ?_)
  refine wpAny_bind ?_
  refine wpAny_bind ?_
  refine wpAny_bind (wpAny_typeNameOfWhole_keyiter hT (wpAny_pure ?_))
  refine wpAny_bind (wpAny_fieldsOf ho hd ?_)
  have hown : Builtin.Dict_items.ownsTuple "dict_keyiterator" = false := by decide
  simp only [hown, Bool.false_eq_true, if_false]
  show wpAny _ _ (if (Value.ref d == Value.none) = true then _ else _) _ _ s
  rw [if_neg (show ¬ ((Value.ref d == Value.none) = true) from Bool.false_ne_true)]
  refine wpAny_bind (wpAny_pure ?_)
  refine wpAny_bind (wpAny_dictEntries hod hdd ?_)
  have hsz : es.size = tb.length := hes.len
  rw [if_neg (by rw [hsz]; simp)]
  refine wpAny_bind (wpAny_pure ?_)
  refine wpAny_bind (wpAny_dictEpoch hod hdd ?_)
  rw [if_neg (by simp)]
  refine wpAny_pure ?_
  rcases Nat.lt_or_ge i tb.length with hlt | hge
  · obtain ⟨e, he, _, ⟨t, hkey⟩, _⟩ := hes.at_ i hlt
    simp only [show ¬ ((i : Int) < 0) from by omega, if_false, Int.toNat_natCast, he]
    refine wpAny_bind ?_
    refine wpAny_bind (wpAny_typeNameOfWhole_keyiter hT (wpAny_pure ?_))
    refine wpAny_bind (wpAny_isOneOf_keyiter hT ?_)
    show wpAny _ _ (setField (.ref it) 1 (rawInt ((i : Int) + 1)) >>= _) _ _ s
    refine wpAny_bind (wpAny_setField ho hd (by simp) ?_)
    have hit' : At ({ s with heap := s.heap.update it (Obj.mapFields (·.setIfInBounds 1 (rawInt ((i : Int) + 1)))) }) it (KItO d tb.length ep (i + 1)) :=
      ⟨_, Heap.get?_update_self _ ho (Obj.isFreed_of_fields (Obj.data_mapFields hd _)), (Obj.cls_mapFields ..).trans hc, by rw [Obj.data_mapFields hd]; simp [rawInt]⟩
    obtain ⟨o2, g2, c2, d2⟩ := id hit'
    refine wpAny_bind (wpAny_holding ?_)
    refine wpAny_bind (wpAny_isOneOf_keyiter ⟨o2, g2, c2⟩ ?_)
    show wpAny _ _ (pure e.key) _ _ _
    rw [hkey]
    exact wpAny_pure (wpAny_pure ⟨_, rfl, wpAny_pure (hQ1 hlt _ t (Kp.same (tk := s.toks) (Heap.SameBut.update ..)) hit')⟩)
  · have hnone : es[i]? = none := by rw [Array.getElem?_eq_none_iff]; omega
    simp only [show ¬ ((i : Int) < 0) from by omega, if_false, Int.toNat_natCast, hnone]
    refine wpAny_bind ?_
    refine wpAny_bind (wpAny_typeNameOfWhole_keyiter hT (wpAny_pure ?_))
    simp only [hown, Bool.false_eq_true, if_false]
    refine wpAny_bind (wpAny_setField ho hd (by simp) ?_)
    refine wpAny_bind ?_
    simp only [newExc, newTuple]
    refine wpAny_bind (wpAny_newObj_type ?_ (by size_fits))
    refine wpAny_bind (m := firstArgMember _ _) (wpAny_of_eq (a := Value.none) (by first | rfl | (simp only [firstArgMember]; rfl)) ?_)
    refine wpAny_newObj_type ?_ (by size_fits)
    simp only [raiseNew]
    refine wpAny_bind (wpAny_handled ?_)
    rw [show A.in1.handled = none from hh]
    refine wpAny_bind (wpAny_pure (wpAny_throw ?_))
    refine wpAny_bind (wpAny_isInstance (T := "StopIteration") (b := true) ⟨_, Heap.get?_push_size _ rfl, rfl⟩ isSubtype_stop ?_)
    exact wpAny_pure (hQ2 hge _ (Kp.ext (tk := s.toks) (((Heap.SameBut.update s.heap it _).extBut.push _).push _)))
end
end Mine
end Sets8Part

section Sets9Part
open PySem PySem.W PyProof.Rows PySem.Calls
namespace Mine
theorem sub_dd_set : isSubtype (.type "collections.defaultdict") (.type "set") = pure false := by rw [isSubtype_type]; kernel_rfl
theorem sub_dd_frozenset : isSubtype (.type "collections.defaultdict") (.type "frozenset") = pure false := by rw [isSubtype_type]; kernel_rfl

section
variable {prog : Program} {w : World} {A : Around} {E : Value → Shared → Prop} {s : Shared} {a d it : Nat} {c led : Bool} {ks : List Nat} {tb : List (Nat × Nat)}

theorem su_loop_dd {ep : Nat} {R : Result → Shared → Prop} (hh : A.in1.handled = none) (h7 : Small tb) (hal : a ≠ d) (hai : a ≠ it) (hil : it ≠ d) :
    ∀ (k i : Nat) (s : Shared) (ks : List Nat), tb.length - i = k → At s a (SetO led true ks) → At s d (DDAt tb ep) → At s it (KItO d tb.length ep i) →
      (∀ s' ks', Kp (fun b => b = a ∨ b = it) No s s' → At s' a (SetO led true ks') → (∀ x, x ∈ ks' ↔ x ∈ ks ∨ x ∈ (tb.map (·.1)).drop i) → R (.ok (.ret .none)) s') →
      codeAny (model prog w) A (.builtin "set.update.loop" ⟨[.ref a, .ref it], []⟩) R s := by
  intro k
  induction k with
  | zero =>
    intro i s ks hk ha hl hi hR
    refine codeAny_builtin F.entry_set_update_loop ?_
    rw [Around.under_plainId F.plain_set_update_loop _]
    show wpAny _ A.in1 (pyNext (.ref it) >>= _) _ _ s
    refine wpAny_bind (next_dd hh hi hl (fun h => by omega) fun _ s' e => ?_)
    show wpAny _ A.in1 (ret Value.none) _ _ s'
    refine wpAny_pure (hR s' ks (e.mono (fun b _ _ h => .inr h) fun _ _ h => h) (ha.kp e hai) fun x => ?_)
    have hd : (tb.map (·.1)).drop i = [] := List.drop_eq_nil_of_le (by simp; omega)
    simp [hd]
  | succ k ih =>
    intro i s ks hk ha hl hi hR
    have hlt : i < tb.length := by omega
    have hx7 : tb[i].1 < 7 := h7 _ (List.getElem_mem hlt)
    refine codeAny_builtin F.entry_set_update_loop ?_
    rw [Around.under_plainId F.plain_set_update_loop _]
    show wpAny _ A.in1 (pyNext (.ref it) >>= _) _ _ s
    refine wpAny_bind (next_dd hh hi hl (fun _ s1 t e1 i1 => ?_) fun h => by omega)
    show wpAny _ A.in1 (holding [Value.int (tb[i].1 : Int) t] (setAdd a (.int (tb[i].1 : Int) t)) >>= _) _ _ s1
    refine wpAny_bind (wpAny_holding (setAdd_ok (ha.kp e1 hai) hx7 fun s2 e2 a2 => ?_))
    refine wpAny_pure ⟨plainId_quiet F.plain_set_update_loop _, ?_⟩
    refine ih (i + 1) s2 _ (by omega) a2 ((hl.kp e1 (Ne.symm hil)).kp e2 (Ne.symm hal)) (i1.kp e2 (Ne.symm hai)) fun s3 ks3 e3 a3 hm => ?_
    refine hR s3 ks3 (((e1.mono (fun b _ _ h => .inr h) fun _ _ h => h).trans (e2.mono (fun b _ _ h => .inl h) fun _ _ h => h)).trans e3) a3 fun x => ?_
    have hlt' : i < (tb.map (·.1)).length := by simpa using hlt
    rw [hm x, List.drop_eq_getElem_cons hlt', List.mem_cons, List.getElem_map]
    by_cases h : tb[i].1 ∈ ks
    · rw [if_pos h]
      constructor
      · rintro (h' | h')
        · exact .inl h'
        · exact .inr (.inr h')
      · rintro (h' | rfl | h')
        · exact .inl h'
        · exact .inl h
        · exact .inr h'
    · rw [if_neg h, mem_ins]
      constructor
      · rintro ((rfl | h') | h')
        · exact .inr (.inl rfl)
        · exact .inl h'
        · exact .inr (.inr h')
      · rintro (h' | rfl | h')
        · exact .inl (.inr h')
        · exact .inl (.inl rfl)
        · exact .inr h'

theorem call_set_dd (hh : A.handled = none) (hl : At s d (DDO tb)) (hsys : d ≠ sysModules) (h7 : Small tb) {Q : Value → Shared → Prop}
    (hQ : ∀ s' a ks, Kp No No s s' → s.heap.objs.size ≤ a → At s' a (SetO (ledOf w) true ks) → (∀ x, x ∈ ks ↔ x ∈ tb.map (·.1)) → Q (.ref a) s') :
    wpAny (model prog w) A (call (.type "set") [.ref d]) Q E s := by
  refine call_set_with (F.typeCall_set_1 _) (F.newCall_set_1 _) fun s₁ hs => ?_
  have hT : s₁.TypeIs (.ref s.heap.objs.size) "set" := by subst hs; exact ⟨_, Heap.get?_push_size _ rfl, rfl⟩
  have hA : At s₁ s.heap.objs.size (SetO (ledOf w) true []) := by
    subst hs; exact At.push rfl ⟨⟨rfl, rfl, rfl⟩, #[], 0, _, rfl, SetD.empty _⟩
  have hK : Kp No No s s₁ := by subst hs; exact Kp.push (tk := s.toks)
  have hll := hl.lt
  have hl1 := hl.kp hK id
  refine codeAny_call_builtin F.called_set.init.plain F.entry_set_init (check_set_init_1 hT ?_)
  unfold Builtin.«set.__init__» noKeywords Builtin.Frozenset.updateFrom
  generalize hal : s.heap.objs.size = a at *
  obtain ⟨o, g, hex, es, ep, t, hd, x⟩ := id hA
  obtain ⟨ol, gl, hcl, hdl, hsl, esl, epl, hdatl, hentl⟩ := id hl1
  obtain ⟨cls, dict, data, slots⟩ := o
  obtain ⟨rfl, rfl, rfl⟩ : cls = .type "set" ∧ dict = none ∧ slots = #[] := hex
  have hd' : data = .set es ep t := hd
  subst hd'
  obtain ⟨lcls, ldict, ldata, lslots⟩ := ol
  have hcl' : lcls = .type "collections.defaultdict" := hcl
  subst hcl'
  have hsls := sub_dd_set
  have hslf := sub_dd_frozenset
  have hne : (Value.type "collections.defaultdict" == Value.type "dict") = false := by decide
  have hfit := x.fits
  have hfill : (t.fill != 0) = false := by
    have h1 := x.fill
    have h2 := x.clean rfl
    have h3 : t.place.size = 0 := by rw [← Array.length_toList, x.place]; rfl
    simp [SetTable.fill, h2, h3]
  have hc : (t.place.size != es.size || decide (t.fill > t.mask)) = false := by
    simp only [SetTable.fits, Bool.and_eq_true, beq_iff_eq, decide_eq_true_eq] at hfit
    simp [hfit.1, Nat.not_lt.mpr hfit.2]
  generalize hPI : pyIter = PI
  obtain ⟨hp, gg, dr, tk, os⟩ := s₁
  wp_walk
  subst hPI
  have hap := hA.lt
  have hlp := hl1.lt
  refine iter_dd hl1 hsys fun s1 it ep1 e1 hit i1 m1 => ?_
  refine wpAny_bind (wpAny_runValue ?_)
  refine su_loop_dd (A := A.in1.in1) (led := ledOf w) (tb := tb) hh h7 (by omega) (by omega) (by omega) _ 0 s1 [] rfl (hA.kp e1 id) m1 i1 fun s2 ks2 e2 a2 hm => ?_
  refine wpAny_pure (wpAny_pure ⟨rfl, hQ s2 a ks2 ?_ (by omega) a2 fun x => ?_⟩)
  · refine kp_new hK (kp_new e1 e2 (P' := fun b => b = a) fun b o ho h => ?_) fun b o ho h => ?_
    · have hb := get_lt ho
      rcases h with h | h
      · exact h
      · omega
    · have hb := get_lt ho
      omega
  · rw [hm x]; simp
end
end Mine
end Sets9Part

section Sets10Part
open PySem PySem.W PyProof.Rows PySem.Calls
namespace Mine

section
variable {prog : Program} {w : World} {A : Around} {E : Value → Shared → Prop} {s : Shared} {a b l it : Nat} {c c' : Bool} {ks ns : List Nat}

theorem newSet_ok {Q : Value → Shared → Prop} (hQ : ∀ s' D, Kp No No s s' → D = s.heap.objs.size → At s' D (SetO (ledOf w) true []) → Q (.ref D) s') : wpAny (model prog w) A (newSet (.type "set")) Q E s := by
  unfold newSet
  refine wpAny_bind ?_
  unfold setsByText
  refine wpAny_bind (wpAny_askSetting (wpAny_pure ?_))
  exact wpAny_newObj_type (hQ _ _ (Kp.push (tk := s.toks)) rfl (At.push rfl ⟨⟨rfl, rfl, rfl⟩, #[], 0, _, rfl, SetD.empty _⟩))

theorem setMerge_empty {Q : Unit → Shared → Prop} {each : Sem Unit} (hr : At s a (SetO (ledOf w) true [])) (ho : At s b (SetO (ledOf w) c ks)) (hab : a ≠ b)
    (hQ : ∀ s', Kp (· = a) No s s' → At s' a (SetO (ledOf w) true ks) → Q () s') : wpAny (model prog w) A (setMerge a b each) Q E s := by
  obtain ⟨o, g, hex, es, ep, t, hd, x⟩ := id ho
  unfold setMerge
  rw [if_neg (show ¬ ((a == b) = true) by simpa using hab)]
  refine wpAny_bind (wpAny_setState_of g hd x.fits ?_)
  dsimp only
  have hsz := x.size
  by_cases he : es.isEmpty = true
  · rw [if_pos he]
    refine wpAny_pure (hQ s (Kp.refl s) ?_)
    have : ks = [] := by
      have : es.size = 0 := by simpa [Array.isEmpty] using he
      exact List.length_eq_zero_iff.mp (by omega)
    rw [this]; exact hr
  · rw [if_neg he]
    refine wpAny_bind ?_
    have room : ∀ (Q : Unit → Shared → Prop), (∀ s', Kp (· = a) No s s' → At s' a (SetO (ledOf w) true []) → Q () s') → wpAny (model prog w) A (setRoomFor a es.size) Q E s := by
      intro Q hQ
      obtain ⟨o2, g2, hex2, es2, ep2, t2, hd2, x2⟩ := id hr
      unfold setRoomFor
      refine wpAny_bind (wpAny_setState_of g2 hd2 x2.fits ?_)
      dsimp only
      cases hrf : t2.roomFor es.size with
      | none => exact wpAny_pure (hQ s (Kp.refl s) hr)
      | some wanted =>
        dsimp only
        refine setRelay_ok hr ?_ hQ
        unfold SetTable.roomFor at hrf
        split at hrf
        · cases hrf
          have hp : t2.place.size = 0 := by rw [← Array.length_toList, x2.place]; rfl
          have := x.fill
          rw [hp]
          have h7 : es.size ≤ 7 := by omega
          have : ∀ n, n ≤ 7 → SetTable.sizeAbove ((0 + n) * 2) ≤ 64 := by decide
          exact this _ h7
        · cases hrf
    refine room _ fun s1 e1 r1 => ?_
    have g1 := e1.keep b o (Ne.symm hab) g
    obtain ⟨o2, g2, hex2, es2, ep2, t2, hd2, x2⟩ := id r1
    refine wpAny_bind (wpAny_setState_of g2 hd2 x2.fits ?_)
    dsimp only
    have hfill : (t2.fill != 0) = false := by
      have h2 := x2.clean rfl
      have h3 : t2.place.size = 0 := by rw [← Array.length_toList, x2.place]; rfl
      simp [SetTable.fill, h2, h3]
    have hled : (t2.led && t.led) = ledOf w := by rw [x2.led, x.led]; cases ledOf w <;> rfl
    have hplain : (t2.plain && t.plain) = true := by rw [x2.plain, x.plain]; rfl
    unfold SetTable.road
    rw [hfill]
    simp only [Bool.false_eq_true, if_false]
    by_cases hsl : (t2.mask == t.mask && t.dummies.isEmpty) = true
    · rw [if_pos hsl]
      dsimp only
      rw [hled, hplain]
      refine store_ok (ks' := ks) (c' := true) g2 hex2 hd2 ⟨x.vals, x.vints, x.sorted, x.lt, x.place, x.mask, x.fill, fun _ => ?_, rfl, rfl⟩ fun s2 e2 _ _ a2 => hQ s2 (e1.trans e2) a2
      have := (Bool.and_eq_true_iff.mp hsl).2
      simpa using this
    · rw [if_neg hsl]
      dsimp only
      rw [hled, hplain]
      rw [laid_same x x2.mask]
      refine wpAny_bind ?_
      wp_delta
      have hes : (Array.range ks.length).filterMap (fun i => es[i]?) = es := by rw [← x.size]; exact range_filterMap es
      rw [hes]
      rw [if_neg (by simp)]
      refine wpAny_pure ?_
      refine store_ok (ks' := ks) (c' := true) g2 hex2 hd2 ⟨x.vals, x.vints, x.sorted, x.lt, rfl, x2.mask, ?_, fun _ => rfl, rfl, rfl⟩ fun s2 e2 _ _ a2 => hQ s2 (e1.trans e2) a2
      have := x.fill
      simp; omega

theorem entry_set_difference : entryFor table "set.difference" = some Builtin.«frozenset.difference» :=
  entryFor_alias (id' := "frozenset.difference") (by kernel_rfl) rfl (by decide +kernel) (by kernel_rfl)
theorem sub_set_set' : isSubtype (.type "set") (.type "set") = pure true := by rw [isSubtype_type]; kernel_rfl

theorem du_list {nm : String} {c : Bool} {ks : List Nat} {led : Bool} (hh : A.handled = none) (ha : At s a (SetO led c ks)) (hl : At s l (NatsO ns)) (h7 : ∀ k ∈ ns, k < 7) (hal : a ≠ l) {Q : Unit → Shared → Prop}
    (hQ : ∀ s' c', Kp (· = a) No s s' → At s' a (SetO led c' (ks.filter fun x => ! ns.contains x)) → Q () s') :
    wpAny (model prog w) A (Builtin.Frozenset.differenceUpdate nm a (.ref l)) Q E s := by
  obtain ⟨vs, hl, hv⟩ := natsO_list hl
  unfold Builtin.Frozenset.differenceUpdate
  have hne : (Value.ref l == Value.ref a) = false := by simpa using Ne.symm hal
  rw [hne]
  simp only [Bool.false_eq_true, if_false]
  refine wpAny_bind (notSet_list (listO_typeIs hl) ?_)
  simp only [Bool.false_eq_true, if_false]
  refine wpAny_bind (iter_list hl fun s1 it e1 hit i1 => ?_)
  have hlt := ha.lt
  have hll := hl.lt
  refine wpAny_bind (wpAny_runValue ?_)
  refine du_loop (A := A) (c := c) (led := led) hh hv h7 hal (by omega) (by omega) _ 0 s1 ks rfl (ha.kp e1 id) (hl.kp e1 id) i1 fun s2 e2 ⟨c2, a2⟩ => ?_
  refine setTidy_ok a2 fun s3 c3 e3 a3 => ?_
  refine hQ s3 c3 ?_ a3
  exact (kp_new e1 e2 fun b o ho h => by have hb := get_lt ho; rcases h with h | h; exact h; omega).trans e3

theorem call_difference (hh : A.handled = none) (ha : At s a (SetO (ledOf w) c ks)) (hl : At s l (NatsO ns)) (h7 : ∀ k ∈ ns, k < 7) (hal : a ≠ l) {Q : Value → Shared → Prop}
    (hQ : ∀ s' D c', Kp No No s s' → Above s D → At s' D (SetO (ledOf w) c' (ks.filter fun x => ! ns.contains x)) → Q (.ref D) s') :
    wpAny (model prog w) A (call (.builtin "set.difference") [.ref a, .ref l]) Q E s := by
  have hlt := ha.lt
  have hll := hl.lt
  obtain ⟨vs, hlv, hv⟩ := natsO_list hl
  refine wpAny_call_entry F.slot_set_difference (setO_typeIs ha) entry_set_difference ?_ (F.args_set_difference_2 _ _)
  unfold Builtin.«frozenset.difference» Builtin.Frozenset.manyOthers
  simp only [List.isEmpty_nil, bind_assoc, Bool.not_true, Bool.false_eq_true, if_false]
  unfold Builtin.Frozenset.addrOf
  refine wpAny_bind (wpAny_pure ?_)
  refine wpAny_bind (wpAny_pure ?_)
  dsimp only
  refine wpAny_bind ?_
  unfold Builtin.Frozenset.difference
  dsimp only
  refine wpAny_bind (notSet_list (listO_typeIs hlv) ?_)
  simp only [Bool.not_false, if_true]
  refine wpAny_bind (wpAny_typeOf (listO_typeIs hlv) ?_)
  rw [if_pos (show (Value.type "list" != Value.type "dict") = true by decide)]
  refine wpAny_bind ?_
  unfold Builtin.Frozenset.copyOf Builtin.Frozenset.baseOf
  refine wpAny_bind (wpAny_bind (wpAny_isInstance (setO_typeIs ha) sub_set_set' (wpAny_pure ?_)))
  rw [if_pos rfl]
  refine wpAny_bind (newSet_ok fun s1 D e1 hD d1 => ?_)
  refine wpAny_bind (wpAny_pure ?_)
  refine wpAny_bind (setMerge_empty d1 (ha.kp e1 id) (by omega) fun s2 e2 d2 => ?_)
  refine wpAny_pure ?_
  refine wpAny_bind (wpAny_pure ?_)
  have hD1 := d2.lt
  refine wpAny_bind (wpAny_holding ?_)
  refine du_list (A := A.in1) (ks := ks) hh d2 ((hl.kp e1 id).kp e2 (by omega)) h7 (by omega) fun s3 c3 e3 d3 => ?_
  refine wpAny_pure ?_
  refine wpAny_bind (wpAny_holding (wpAny_bind ?_))
  show wpAny _ _ (pure PUnit.unit) _ _ s3
  refine wpAny_pure (wpAny_pure (wpAny_pure ⟨_, rfl, hQ s3 D c3 ?_ (above_le (Nat.le_of_eq hD.symm)) d3⟩))
  exact kp_new (P' := No) e1 (e2.trans e3) fun b o ho h => by have := get_lt ho; exact absurd h (by omega)

theorem call_remove {k : Nat} {tok : Tok} {led : Bool} (ha : At s a (SetO led c ks)) (h7 : k < 7) (hk : k ∈ ks) {Q : Value → Shared → Prop}
    (hQ : ∀ s', Kp (· = a) No s s' → At s' a (SetO led false (ks.filter (fun y => y != k))) → Q .none s') :
    wpAny (model prog w) A (call (.builtin "set.remove") [.ref a, .int k tok]) Q E s := by
  refine wpAny_call_entry F.slot_set_remove (setO_typeIs ha) F.entry_set_remove ?_ (F.args_set_remove_2 _ _)
  unfold Builtin.«set.remove» Builtin.Frozenset.oneOther
  simp only [List.isEmpty_nil]
  unfold Builtin.Frozenset.addrOf
  refine wpAny_bind (wpAny_bind (wpAny_pure (wpAny_pure ?_)))
  dsimp only
  refine wpAny_bind ?_
  unfold Builtin.Frozenset.withSetAsKey
  refine wpAny_tryCatch (wpAny_mono (setDiscard_ok ha h7 (Q := fun b s' => b = true ∧ Q .none s') fun s1 e1 a1 => ⟨by simpa using hk, hQ s1 e1 a1⟩) (fun b s' h => ?_) fun _ _ h => h)
  obtain ⟨rfl, h⟩ := h
  rw [if_neg (by decide)]
  exact wpAny_pure ⟨_, rfl, h⟩
end
end Mine
end Sets10Part

section Lists4Part
open PySem PySem.W PyProof.Rows PySem.Calls
namespace Mine

theorem NatsAre.mem {vs : List Value} {ns : List Nat} (h : NatsAre vs ns) {y : Value} (hy : y ∈ vs) : ∃ k ∈ ns, ∃ t, y = .int (k : Nat) t := by
  obtain ⟨i, hi, rfl⟩ := List.getElem_of_mem hy
  have hin : i < ns.length := by rw [← h.length]; exact hi
  obtain ⟨t, ht⟩ := h.get (List.getElem?_eq_getElem hin)
  rw [List.getElem?_eq_getElem hi] at ht
  exact ⟨ns[i], List.getElem_mem hin, t, Option.some.inj ht⟩
theorem NatsAre.mem' {vs : List Value} {ns : List Nat} (h : NatsAre vs ns) {k : Nat} (hk : k ∈ ns) : ∃ t, Value.int (k : Nat) t ∈ vs := by
  obtain ⟨i, hi, rfl⟩ := List.getElem_of_mem hk
  obtain ⟨t, ht⟩ := h.get (List.getElem?_eq_getElem hi)
  exact ⟨t, List.mem_of_getElem? ht⟩

section
variable {prog : Program} {w : World} {A : Around} {E : Value → Shared → Prop} {s : Shared} {l : Nat} {vs : List Value} {ns : List Nat}

theorem in_nats {k : Nat} {t : Tok} (hl : At s l (ListO vs)) (hv : NatsAre vs ns) {Q : Value → Shared → Prop} (hQ : Q (.bool (decide (k ∈ ns))) s) :
    wpAny (model prog w) A (compareOp .In (.int k t) (.ref l)) Q E s := by
  refine SeqAt.in_listAt (items := vs.toArray) (fun y => match y with | .int i _ => i == (k : Int) | _ => false) (listO_isList hl) (fun y hy => ?_) ?_
  · obtain ⟨i, _, u, rfl⟩ := hv.mem (by simpa using hy)
    exact SeqAt.EqAt.int_int i u k t
  · have : (vs.toArray.any fun y => match y with | .int i _ => i == (k : Int) | _ => false) = decide (k ∈ ns) := by
      rw [Bool.eq_iff_iff, decide_eq_true_eq]
      simp only [List.any_toArray, List.any_eq_true]
      constructor
      · rintro ⟨y, hy, h⟩
        obtain ⟨i, hi, u, rfl⟩ := hv.mem hy
        simp at h
        have : i = k := by omega
        exact this ▸ hi
      · intro hk
        obtain ⟨u, hu⟩ := hv.mem' hk
        exact ⟨_, hu, by simp⟩
    rw [this]; exact hQ

theorem get_last {x : Value} {t : Tok} (hl : At s l (ListO (vs ++ [x]))) (hsz : vs.length ≤ 1000) {Q : Value → Shared → Prop} (hQ : Q x s) : wpAny (model prog w) A (getItem (.ref l) (.int (-1) t)) Q E s := by
  have hs : (vs ++ [x]).toArray.size = vs.length + 1 := by simp
  refine wpAny_getItem_list_neg (listO_isList hl) (by decide) (by rw [hs]; omega) (by decide) ?_ hQ
  rw [hs]
  have : ((-1 : Int) + (vs.length + 1 : Nat)).toNat = vs.length := by omega
  rw [this]; simp

theorem call_pop {x : Value} (hl : At s l (ListO (vs ++ [x]))) (hsz : vs.length ≤ 1000) {Q : Value → Shared → Prop} (hQ : ∀ s', Kp (· = l) No s s' → At s' l (ListO vs) → Q x s') :
    wpAny (model prog w) A (call (.builtin "list.pop") [.ref l]) Q E s := by
  have hs : (vs ++ [x]).toArray.size = vs.length + 1 := by simp
  have hT := listO_typeIs hl
  obtain ⟨o, g, hc, hdi, n, hd⟩ := id hl
  refine wpAny_call_entry F.slot_list_pop hT F.entry_list_pop ?_ (F.args_list_pop_1 _)
  unfold Builtin.«list.pop»
  refine wpAny_bind (wpAny_of_eq (a := (Value.ref l, [])) rfl ?_)
  dsimp only
  refine wpAny_bind (wpAny_pure ?_)
  rw [if_neg (by decide)]
  unfold Builtin.List.listItems
  refine wpAny_bind (wpAny_bind (wpAny_seqItems g hd (wpAny_pure ?_)))
  rw [if_neg (by simp)]
  rw [seqIndex_neg (by omega) (by rw [hs]; omega)]
  have hk : ((-1 : Int) + ((vs ++ [x]).toArray.size : Nat)).toNat = vs.length := by rw [hs]; omega
  rw [hk]
  have hx : (vs ++ [x]).toArray[vs.length]? = some x := by simp
  simp only [Option.bind_some, hx, Option.map_some]
  refine wpAny_bind ?_
  show wpAny _ _ (updateSeq l fun x => x.eraseIdxIfInBounds vs.length) _ _ s
  obtain ⟨n', hd'⟩ := Obj.data_mapSeq hd (fun x => x.eraseIdxIfInBounds vs.length)
  have he : ((vs ++ [x]).toArray.eraseIdxIfInBounds vs.length) = vs.toArray := by
    simp [Array.eraseIdxIfInBounds]
    rw [List.eraseIdx_append_of_length_le (Nat.le_refl _)]; simp
  refine wpAny_updateSeq g hd ?_ (by rw [hs, sizeLine_eq]; omega) (by rw [he, sizeLine_eq]; simp; omega)
  refine wpAny_pure ⟨_, rfl, hQ _ (Kp.same (tk := s.toks) (Heap.SameBut.update ..)) ?_⟩
  refine ⟨_, Heap.get?_update_self _ g (Obj.isFreed_of_seq hd'), (Obj.cls_mapSeq ..).trans hc, ?_, n', by rw [hd', he]⟩
  obtain ⟨c1, c2, c3, c4⟩ := o
  have hd2 : c3 = _ := hd
  subst hd2
  exact hdi
end
end Mine
end Lists4Part

section FC1Part
open PySem PySem.W PyProof.Rows PySem.Calls
namespace Mine

theorem rank_len {r : Nat → Nat} {st : List Nat} (h : st.Pairwise (fun a b => r a < r b)) (h7 : ∀ x ∈ st, x < 7) : st.length ≤ 7 :=
  length_of_small (List.Pairwise.imp (fun {a b} h e => by subst e; omega) h) h7

theorem ints_unsnoc {k : Int} : ∀ {l : List Int} {vs : List Value}, IntsAre vs (l ++ [k]) → ∃ vs0 t, vs = vs0 ++ [.int k t] ∧ IntsAre vs0 l := by
  intro l
  induction l with
  | nil =>
    intro vs h
    cases h with
    | cons i t h' => cases h'; exact ⟨[], t, rfl, IntsAre.nil⟩
  | cons a l ih =>
    intro vs h
    cases h with
    | cons i t h' =>
      obtain ⟨vs0, t', rfl, h2⟩ := ih h'
      exact ⟨.int a t :: vs0, t', rfl, IntsAre.cons a t h2⟩
theorem NatsAre.unsnoc {k : Nat} {l : List Nat} {vs : List Value} (h : NatsAre vs (l ++ [k])) : ∃ vs0 t, vs = vs0 ++ [.int (k : Nat) t] ∧ NatsAre vs0 l := by
  unfold NatsAre at h
  rw [List.map_append] at h
  exact ints_unsnoc h

section
variable {prog : Program} {w : World} {A : Around} {E : Value → Shared → Prop} {s : Shared} {env : Env}

/-- a for over a set that no turn changes, with break and else -/
theorem loop_set {x : Str} {px : Pos} {body orelse : List Stmt} {R : Result → Shared → Prop} {S : Nat} {o : Obj} {c : Bool} {ks : List Nat} (hh : A.handled = none) (g : s.heap.get? S = some o) (hS : SetO (ledOf w) c ks o) (J : Nat → Shared → Prop)
    (h0 : ∀ it s', it = s.heap.objs.size → Kp No No s s' → J it s')
    (keep : ∀ it s1 s2, it = s.heap.objs.size → J it s1 → Kp (· = it) No s1 s2 → J it s2)
    (obj : ∀ it s1, it = s.heap.objs.size → J it s1 → s1.heap.get? S = some o)
    (step : ∀ it n s1 (k : Nat) tok, it = s.heap.objs.size → k ∈ ks → J it s1 → At s1 it (SItO w S o n) →
      wpAny (model prog w) A (assign (.Name x px) env (.int k tok)) (fun _ s2 => wpAny (model prog w) A (execs body env) (fun f s3 => match f with
        | .next | .cont => J it s3 ∧ At s3 it (SItO w S o n)
        | .brk => R (.ok .next) s3
        | .ret v => R (.ok (.ret v)) s3) noE s2) noE s1)
    (fin : ∀ it s1, it = s.heap.objs.size → J it s1 → wpAny (model prog w) A (execs orelse env) (fun f s => R (.ok f) s) noE s1) :
    wpAny (model prog w) A (pyIter (.ref S)) (fun it s2 => codeAny (model prog w) A (.forLoop (.Name x px) it body orelse env) R s2) E s := by
  refine iter_set g hS fun s1 it e1 hit i1 => ?_
  refine codeAny_forLoop_any (fun n s' => J it s' ∧ At s' it (SItO w S o n)) (fun n s' ⟨hJ, hi⟩ => ?_) 7 ⟨h0 it s1 hit e1, i1⟩
  refine next_set hh (obj it s' hit hJ) hS hi (fun s2 k tok hk hn e2 i2 => ?_) fun s2 e2 => ?_
  · refine wpAny_pure ?_
    refine wpAny_mono (step it (n - 1) s2 k tok hit hk (keep it s' s2 hit hJ e2) i2) (fun _ s3 h3 => wpAny_mono h3 (fun f s4 h4 => ?_) fun _ _ h => h.elim) fun _ _ h => h.elim
    cases f with
    | next => exact ⟨n - 1, by omega, h4⟩
    | cont => exact ⟨n - 1, by omega, h4⟩
    | brk => exact h4
    | ret v => exact h4
  · exact wpAny_mono (fin it s2 hit (keep it s' s2 hit hJ e2)) (fun _ _ h => h) fun _ _ h => h.elim

theorem fc_for {q1 q2 q3 q4 q5 q6 q7 q8 q9 q10 q11 q12 q13 q14 q15 q16 q17 q18 q19 q20 q21 q22 q23 q24 q25 q26 q27 q28 : Pos} {body1 : List Stmt} {L D ST TD k : Nat} {tk : Tok} {l : List (Str × Value)} {tb kv : List (Nat × Nat)} {c : Bool} {vs : List Value} {st0 td : List Nat} {r : Nat → Nat} {Q : Flow → Shared → Prop}
    (hh : A.handled = none) (hL : At s L (VarsO l)) (hD : DDS (ledOf w) s D tb kv) (hDs : D ≠ sysModules) (hk7 : k < 7)
    (hr : ∀ q ∈ kv, r q.1 < r q.2) (hkv7 : ∀ q ∈ kv, q.2 < 7)
    (hST : At s ST (ListO vs)) (hvs : NatsAre vs (st0 ++ [k])) (hpw : (st0 ++ [k]).Pairwise (fun a b => r a < r b)) (h7 : ∀ x ∈ st0 ++ [k], x < 7)
    (hTD : At s TD (SetO (ledOf w) c td))
    (n1 : L ≠ D ∧ L ≠ ST ∧ L ≠ TD ∧ D ≠ ST ∧ D ≠ TD ∧ ST ≠ TD) (n2 : ∀ p ∈ tb, p.2 ≠ L ∧ p.2 ≠ ST ∧ p.2 ≠ TD)
    (m1 : (Str.ofString "edges", .ref D) ∈ l) (m2 : (Str.ofString "top", .int k tk) ∈ l) (m3 : (Str.ofString "stack", .ref ST) ∈ l) (m4 : (Str.ofString "todo", .ref TD) ∈ l) (hfree : ∀ p ∈ l, p.1 ≠ "node")
    (hQ : ∀ s' tb' vs' st' td' c', At s' L (VarsO l) → Kp (fun b => b = L ∨ b = D ∨ b = ST ∨ b = TD) No s s' → DDS (ledOf w) s' D tb' kv → (∀ p ∈ tb', p ∈ tb ∨ Above s p.2) → At s' ST (ListO vs') → NatsAre vs' st' →
      st'.Pairwise (fun a b => r a < r b) → (∀ x ∈ st', x < 7) → At s' TD (SetO (ledOf w) c' td') → 2 * td'.length + st'.length < 2 * td.length + (st0.length + 1) → Q .next s')
    (hLe : env.locals = L := by rfl) (hk : env.scope.kind = .function := by rfl) (h1 : env.kindOf "edges" = some .local := by rfl) (h2 : env.kindOf "top" = some .local := by rfl) (h3 : env.kindOf "stack" = some .local := by rfl) (h4 : env.kindOf "todo" = some .local := by rfl) (h5 : env.kindOf "node" = some .local := by rfl)
    (hp1 : (q13.endLine == q15.line) = true := by rfl) (hp2 : (q18.endLine == q20.line) = true := by rfl) (hp3 : (q25.endLine == q26.line) = true := by rfl) (hi : interactive env = false := by rfl) :
    wpAny (model prog w) A (exec (.For (.Name "node" q1) (.Subscript (.Name "edges" q2) (.Name "top" q3) q4) [.If (.Compare (.Name "node" q5) [.In] [.Name "stack" q6] q7) body1 [] q8, .If (.Compare (.Name "node" q9) [.In] [.Name "todo" q10] q11) [.Expr (.Call (.Attribute (.Name "stack" q12) "append" q13) [.Name "node" q14] [] q15) q16, .Expr (.Call (.Attribute (.Name "todo" q17) "remove" q18) [.Name "node" q19] [] q20) q21, .Break q22] [] q23] [.Expr (.Call (.Attribute (.Name "stack" q24) "pop" q25) [] [] q26) q27] q28) env) Q E s := by
  refine wpAny_For ?_
  refine Subscript_ ?_
  refine ev_local hL m1 ?_ hLe hk h1
  refine ev_local hL m2 ?_ hLe hk h2
  refine tail_any (ddO_typeIs hD.obj) slot_dd_getitem.lookup ?_ (by with_unfolding_all rfl)
  refine hD.item hk7 hDs fun s1 tb1 v e1 dd1 hv hnew => ?_
  obtain ⟨ks, ⟨ov, gv, hov⟩, hks⟩ := dd1.sets _ hv
  have hL1 := hL.kp e1 n1.1
  have hST1 := hST.kp e1 (by omega)
  have hTD1 := hTD.kp e1 (by omega)
  have n2' : ∀ p ∈ tb1, p.2 ≠ L ∧ p.2 ≠ ST ∧ p.2 ≠ TD := fun p hp => by
    rcases hnew p hp with h | h
    · exact n2 p h
    · have := hL.above h; have := hST.above h; have := hTD.above h; omega
  have hv' := n2' _ hv
  have ltL := hL1.lt; have ltST := hST1.lt; have ltTD := hTD1.lt; have ltD := dd1.obj.lt
  have hlen := rank_len hpw h7
  have hlen' : (st0 ++ [k]).length = st0.length + 1 := by simp
  refine loop_set hh gv hov (fun it s' => At s' L (VarsO l) ∧ Kp (fun b => b = L ∨ b = it) No s1 s') (fun it s' hit e => ⟨hL1.kp e id, kp_no e⟩) (fun it s2 s3 hit J e => ⟨J.1.kp e (by omega), J.2.trans (e.mono (fun b _ _ h => .inr h) fun _ _ h => h)⟩)
    (fun it s2 hit J => J.2.keep v ov (by have := get_lt gv; have := hv'.1; dsimp only at this; omega) gv) (fun it n s2 y tok hit hy J hi2 => ?_) (fun it s2 hit J => ?_)
  · refine wpAny_assign_Name ?_
    refine st_local l J.1 (fun p hp => ⟨hp, hfree p hp⟩) (fun s3 e3 l3 => ?_) hLe hk h5
    have k3 : Kp (fun b => b = L ∨ b = it) No s1 s3 := J.2.trans (e3.mono (fun b _ _ h => .inl h) fun _ _ h => h)
    have hST3 := hST1.kp k3 (by omega)
    have hTD3 := hTD1.kp k3 (by omega)
    have hykv : (k, y) ∈ kv := (hks y).mp hy
    have hry := hr _ hykv
    have hy7 := hkv7 _ hykv
    have hyst : y ∉ st0 ++ [k] := fun hm => by
      rcases List.mem_append.mp hm with h | h
      · have := (List.pairwise_append.mp hpw).2.2 y h k (by simp)
        dsimp only at hry; omega
      · simp at h; subst h; dsimp only at hry; omega
    refine wpAny_execs_cons ?_
    refine wpAny_If ?_
    refine wpAny_isTrue_Compare1 ?_
    refine ev_local l3 (.head _) ?_ hLe hk h5
    refine ev_local l3 (.tail _ m3) ?_ hLe hk h3
    refine in_nats hST3 hvs ?_
    refine wpAny_truthy_bool ?_
    rw [show decide (y ∈ st0 ++ [k]) = false by simpa using hyst]
    rw [if_neg Bool.false_ne_true]
    refine wpAny_execs_nil ?_
    refine wpAny_execs_cons ?_
    refine wpAny_If ?_
    refine wpAny_isTrue_Compare1 ?_
    refine ev_local l3 (.head _) ?_ hLe hk h5
    refine ev_local l3 (.tail _ m4) ?_ hLe hk h4
    refine in_set hTD3 fun s4 e4 => ?_
    refine wpAny_truthy_bool ?_
    have l4 := l3.kp e4 id
    have k4 : Kp (fun b => b = L ∨ b = it) No s1 s4 := k3.trans (kp_no e4)
    by_cases hytd : y ∈ td
    · rw [show decide (y ∈ td) = true by simpa using hytd, if_pos rfl]
      refine wpAny_execs_cons ?_
      have hvl : vs.length ≤ 1000 := by rw [hvs.length]; omega
      refine append_stmt l4 (hST3.kp e4 id) hvl (.tail _ m3) (.head _) (fun s5 e5 o5 => ?_) hLe hk h3 h5 (by decide) (by decide) hp1 hi
      have hTD5 := (hTD3.kp e4 id).kp e5 (by omega)
      have l5 := l4.kp e5 (by omega)
      refine wpAny_execs_cons ?_
      refine wpAny_Expr_any ?_ hi rfl
      refine wpAny_Call_method rfl rfl hp2 F.plainAttrs_set F.slot_set_remove F.type_set_remove ?_
      refine ev_local l5 (.tail _ m4) ?_ hLe hk h4
      refine ⟨setO_typeIs hTD5, setO_noDict hTD5, ?_⟩
      refine PyProof.Rows.callWith_method1 ?_
      refine spliced_cons ?_
      refine ev_local l5 (.head _) ?_ hLe hk h5
      refine spliced_nil ?_
      refine call_remove hTD5 hy7 hytd fun s6 e6 t6 => ?_
      refine wpAny_execs_cons ?_
      refine wpAny_Break ?_
      have k6 : Kp (fun b => b = L ∨ b = it ∨ b = ST ∨ b = TD) No s1 s6 :=
        ((k4.mono (fun b _ _ h => by omega) fun _ _ h => h).trans (e5.mono (fun b _ _ h => .inr (.inr (.inl h))) fun _ _ h => h)).trans (e6.mono (fun b _ _ h => .inr (.inr (.inr h))) fun _ _ h => h)
      have dd6 := dd1.kp k6 (by omega) (fun p hp => by have := n2' p hp; have := dd1.lt hp; omega)
      have hnd := nodup_of_sorted (by obtain ⟨_, _, _, _, _, _, _, x⟩ := hTD; exact x.sorted)
      refine hQ s6 tb1 _ (st0 ++ [k] ++ [y]) (td.filter fun z => z != y) false ((vars_sub l5 fun p hp => .tail _ hp).kp e6 (by omega)) ?_ dd6 hnew (o5.kp e6 (by omega)) (hvs.snoc y tok) ?_ ?_ t6 ?_
      · refine ⟨fun b o hb g => k6.keep b o (fun h => hb ?_) (e1.keep b o (fun h => hb (.inr (.inl h))) g), Nat.le_trans e1.gsz k6.gsz, fun i z _ g => k6.gkeep i z id (e1.gkeep i z id g), k6.bare ∘ e1.bare, k6.drawn.trans e1.drawn, k6.os.trans e1.os⟩
        have := get_lt (e1.keep b o (fun h => hb (.inr (.inl h))) g)
        omega
      · rw [List.pairwise_append]
        refine ⟨hpw, by simp, fun a ha b hb => ?_⟩
        simp at hb; subst hb
        rcases List.mem_append.mp ha with h | h
        · have := (List.pairwise_append.mp hpw).2.2 a h k (by simp)
          dsimp only at hry; omega
        · simp at h; subst h; exact hry
      · intro x hx
        rcases List.mem_append.mp hx with h | h
        · exact h7 x h
        · simp at h; subst h; exact hy7
      · have := filter_shorter (p := fun z => z == y) hytd (by simp)
        have he : (td.filter fun z => ! (z == y)) = td.filter fun z => z != y := rfl
        rw [he] at this
        simp only [List.length_append, List.length_cons, List.length_nil]
        omega
    · rw [show decide (y ∈ td) = false by simpa using hytd, if_neg Bool.false_ne_true]
      refine wpAny_execs_nil ?_
      refine wpAny_execs_nil ⟨⟨vars_sub l4 fun p hp => .tail _ hp, k4⟩, (hi2.kp e3 (by omega)).kp e4 id⟩
  · obtain ⟨j1, j2⟩ := J
    have hST2 := hST1.kp j2 (by omega)
    obtain ⟨vs0, t0, rfl, hvs0⟩ := hvs.unsnoc
    have hl0 : vs0.length ≤ 1000 := by rw [hvs0.length]; omega
    refine wpAny_execs_cons ?_
    refine wpAny_Expr_any ?_ hi rfl
    refine wpAny_Call_method rfl rfl hp3 F.plainAttrs_list F.slot_list_pop F.type_list_pop ?_
    refine ev_local j1 m3 ?_ hLe hk h3
    refine ⟨listO_typeIs hST2, listO_noDict hST2, ?_⟩
    refine PyProof.Rows.callWith_method0 ?_
    refine call_pop hST2 hl0 fun s3 e3 o3 => ?_
    refine wpAny_execs_nil ?_
    have k3 : Kp (fun b => b = L ∨ b = it ∨ b = ST) No s1 s3 := (j2.mono (fun b _ _ h => by omega) fun _ _ h => h).trans (e3.mono (fun b _ _ h => .inr (.inr h)) fun _ _ h => h)
    have dd3 := dd1.kp k3 (by omega) (fun p hp => by have := n2' p hp; have := dd1.lt hp; omega)
    refine hQ s3 tb1 vs0 st0 td c (j1.kp e3 (by omega)) ?_ dd3 hnew o3 hvs0 (List.pairwise_append.mp hpw).1 (fun x hx => h7 x (by simp [hx])) (hTD1.kp k3 (by omega)) (by omega)
    refine ⟨fun b o hb g => k3.keep b o (fun h => hb ?_) (e1.keep b o (fun h => hb (.inr (.inl h))) g), Nat.le_trans e1.gsz k3.gsz, fun i z _ g => k3.gkeep i z id (e1.gkeep i z id g), k3.bare ∘ e1.bare, k3.drawn.trans e1.drawn, k3.os.trans e1.os⟩
    have := get_lt (e1.keep b o (fun h => hb (.inr (.inl h))) g)
    omega
end
end Mine
end FC1Part

section FC2Part
open PySem PySem.W PyProof.Rows PySem.Calls
namespace Mine

noncomputable abbrev envFC (P : Params) (L : Nat) : Env := callEnv (fdOf P 72) L 72

abbrev fcL (N D OUT : Nat) : List (Str × Value) := [(Str.ofString "output", .ref OUT), (Str.ofString "nodes_to_test", .ref N), (Str.ofString "edges", .ref D)]

structure FcJ (w : World) (s0 : Shared) (L N D OUT : Nat) (oN : Obj) (kv : List (Nat × Nat)) (it : Nat) (s1 : Shared) : Prop where
  vars : At s1 L (VarsO (fcL N D OUT))
  kp : Kp (fun b => L ≤ b) No s0 s1
  dd : ∃ tb, DDS (ledOf w) s1 D tb kv ∧ ∀ p ∈ tb, p.2 ≠ L ∧ p.2 ≠ N ∧ p.2 ≠ OUT ∧ p.2 ≠ it ∧ L ≤ p.2
  out : At s1 OUT (SetO (ledOf w) true [])
  nod : s1.heap.get? N = some oN

structure FcW (w : World) (s0 : Shared) (L N D OUT : Nat) (oN : Obj) (kv : List (Nat × Nat)) (it : Nat) (oI : Obj) (ST TD : Nat) (r : Nat → Nat) (n : Nat) (s1 : Shared) : Prop where
  vars : At s1 L (VarsO ((Str.ofString "todo", .ref TD) :: (Str.ofString "stack", .ref ST) :: fcL N D OUT))
  kp : Kp (fun b => L ≤ b) No s0 s1
  dd : ∃ tb, DDS (ledOf w) s1 D tb kv ∧ ∀ p ∈ tb, p.2 ≠ L ∧ p.2 ≠ N ∧ p.2 ≠ OUT ∧ p.2 ≠ it ∧ p.2 ≠ ST ∧ p.2 ≠ TD ∧ L ≤ p.2
  out : At s1 OUT (SetO (ledOf w) true [])
  nod : s1.heap.get? N = some oN
  itr : s1.heap.get? it = some oI
  st : ∃ st vs c td, At s1 ST (ListO vs) ∧ NatsAre vs st ∧ st.Pairwise (fun a b => r a < r b) ∧ (∀ x ∈ st, x < 7) ∧ At s1 TD (SetO (ledOf w) c td) ∧ n = 2 * td.length + st.length

section
variable {prog : Program} {w : World} {A : Around} {E : Value → Shared → Prop} {s : Shared} {P I : Nat} {ps : List (Nat × Nat)} {R : Nat → Prop}

theorem eval_neg1 {env : Env} {p q : Pos} {kk : Nat} {Q : Value → Shared → Prop} (hQ : ∀ s' t, Kp No No s s' → Q (.int (-1) t) s') : wpAny (model prog w) A (eval (.UnaryOp .USub (.Constant (.int 1) kk p) q) env) Q E s := by
  refine UnaryOp_ ?_
  refine wpAny_Constant_int ?_
  refine neg_int ?_
  exact hQ _ _ (Kp.toks (tk := s.toks + 1 + 1))

def fcWhile (b : List Stmt) : Stmt := match b with | [_, _, _, _, .For _ _ [_, _, w] _ _, _] => w | _ => .Pass ⟨0, 0, 0, 0⟩

theorem fc_while {s0 : Shared} {L N D OUT : Nat} {oN : Obj} {kv : List (Nat × Nat)} {it : Nat} {oI : Obj} {ST TD : Nat} {r : Nat → Nat} {n : Nat} {Q : Flow → Shared → Prop} (hh : A.handled = none) (hD88 : 88 ≤ D)
    (hr : ∀ q ∈ kv, r q.1 < r q.2) (hkv7 : ∀ q ∈ kv, q.2 < 7)
    (hd : L < N ∧ L < D ∧ L < OUT ∧ L < it ∧ L < ST ∧ L < TD ∧ D ≠ N ∧ D ≠ OUT ∧ D ≠ it ∧ D ≠ ST ∧ D ≠ TD ∧ N ≠ OUT ∧ N ≠ it ∧ N ≠ ST ∧ N ≠ TD ∧ OUT ≠ it ∧ OUT ≠ ST ∧ OUT ≠ TD ∧ it ≠ ST ∧ it ≠ TD ∧ ST ≠ TD)
    (x : FcW w s0 L N D OUT oN kv it oI ST TD r n s) (hQ : ∀ s' n', FcW w s0 L N D OUT oN kv it oI ST TD r n' s' → Q .next s') :
    wpAny (model prog w) A (exec (fcWhile (bodyOf (fdOf w.params 72))) (envFC w.params L)) Q E s := by
  refine wpAny_While ?_
  refine codeAny_whileLoop (FcW w s0 L N D OUT oN kv it oI ST TD r) (fun n s x => ?_) n x
  obtain ⟨x1, x2, ⟨tb, x3, x4⟩, x5, x6, x7, st, vs, c, td, y1, y2, y3, y4, y5, y6⟩ := x
  have hlen := rank_len y3 y4
  refine wpAny_isTrue_value ?_
  refine ev_local x1 (.tail _ (.head _)) ?_
  refine truthy_listO y1 (by rw [y2.length]; omega) fun s1 e1 => ?_
  have keepAll : FcW w s0 L N D OUT oN kv it oI ST TD r n s1 :=
    ⟨x1.kp e1 id, x2.trans (kp_no e1), ⟨tb, x3.kp e1 id fun _ _ => id, x4⟩, x5.kp e1 id, e1.keep _ _ id x6, e1.keep _ _ id x7, st, vs, c, td, y1.kp e1 id, y2, y3, y4, y5.kp e1 id, y6⟩
  by_cases hst : st = []
  · subst hst
    have : vs = [] := List.length_eq_zero_iff.mp y2.length
    subst this
    rw [if_neg (by simp)]
    exact wpAny_execs_nil (hQ s1 n keepAll)
  have hvne : vs ≠ [] := fun h => by
    have := y2.length
    rw [h] at this
    exact hst (List.length_eq_zero_iff.mp this.symm)
  rw [if_pos (by simpa using hvne)]
  obtain ⟨st0, k, rfl⟩ : ∃ st0 k, st = st0 ++ [k] := ⟨st.dropLast, st.getLast hst, (List.dropLast_concat_getLast hst).symm⟩
  obtain ⟨vs0, t0, rfl, hvs0⟩ := y2.unsnoc
  have hlen' : (st0 ++ [k]).length = st0.length + 1 := by simp
  refine wpAny_execs_cons ?_
  refine wpAny_Assign_Name ?_
  refine Subscript_ ?_
  refine ev_local (x1.kp e1 id) (.tail _ (.head _)) ?_
  refine eval_neg1 fun s2 t2 e2 => ?_
  have e12 := e1.trans e2
  refine tail_any (listO_typeIs (y1.kp e12 id)) slot_list_getitem.lookup ?_ (by with_unfolding_all rfl)
  refine get_last (y1.kp e12 id) (by rw [hvs0.length]; omega) ?_
  refine st_local ((Str.ofString "todo", .ref TD) :: (Str.ofString "stack", .ref ST) :: fcL N D OUT) (x1.kp e12 id) (by simp (decide := true)) fun s3 e3 l3 => ?_
  show wpAny _ _ (execs _ _) _ _ s3
  refine wpAny_execs_cons ?_
  have lt1 := x1.lt
  have y1' := (y1.kp e12 id).kp e3 (by omega)
  have y5' := (y5.kp e12 id).kp e3 (by omega)
  have x3' := (x3.kp e12 id fun _ _ => id).kp e3 (by omega) (fun p hp => (x4 p hp).1)
  have k7 : k < 7 := y4 k (by simp)
  refine fc_for hh l3 x3' (by unfold sysModules; omega) k7 hr hkv7 y1' y2 y3 y4 y5' (by omega) (fun p hp => by have := x4 p hp; omega) (by simp) (.head _) (by simp) (by simp) (by simp (decide := true)) fun s4 tb' vs' st' td' c' l4 e4 d4 hnew o4 hv4 hp4 h74 t4 hlt => ?_
  refine wpAny_execs_nil ?_
  have x5' := (x5.kp e12 id).kp e3 (by omega)
  have x6' := e3.keep _ _ (by omega) (e12.keep _ _ id x6)
  have x7' := e3.keep _ _ (by omega) (e12.keep _ _ id x7)
  have ltN := get_lt x6'; have ltit := get_lt x7'; have ltO := x5'.lt; have lST := y1'.lt; have lTD := y5'.lt; have ltL := l3.lt
  refine ⟨2 * td'.length + st'.length, by omega, vars_sub l4 fun p hp => .tail _ hp, ?_, ⟨tb', d4, fun p hp => ?_⟩, x5'.kp e4 (by omega), e4.keep _ _ (by omega) x6', e4.keep _ _ (by omega) x7', st', vs', c', td', o4, hv4, hp4, h74, t4, rfl⟩
  · exact ((x2.trans (kp_no e12)).trans (e3.mono (fun b _ _ h => by omega) fun _ _ h => h)).trans (e4.mono (fun b _ _ h => by omega) fun _ _ h => h)
  · rcases hnew p hp with h | h
    · exact x4 p h
    · have := l3.above h; have := y1'.above h; have := y5'.above h; have := x5'.above h; have := h _ _ x6'; have := h _ _ x7'
      omega
end
end Mine
end FC2Part

section FC3Part
open PySem PySem.W PyProof.Rows PySem.Calls
namespace Mine
section
variable {prog : Program} {w : World} {A : Around} {E : Value → Shared → Prop} {s : Shared} {P I : Nat} {ps : List (Nat × Nat)} {R : Nat → Prop} {items : List Nat}

set_option maxHeartbeats 4000000 in
theorem fc_call (B : Bs w s.heap) (hh : A.handled = none) (hroom : A.depth < recursionLimit) (x : Given s R P I ps items) {Q : Value → Shared → Prop}
    (hQ : ∀ s' OUT, Kp No No s s' → Above s OUT → At s' OUT (SetO (ledOf w) true []) → Q (.ref OUT) s') :
    wpAny (model prog w) A (call (.ref 72) [.ref P, .ref I]) Q E s := by
  refine wpAny_call ?_
  refine codeAny_call_def (fd := fdOf w.params 72) (body := bodyOf (fdOf w.params 72)) (binds := [(Str.ofString "tuples", .ref P), (Str.ofString "allitems", .ref I)]) hroom (B.K 72 _ rfl) rfl B.nolimit ⟨71, _, _, _, rfl, B.K 71 _ rfl, rfl, rfl⟩ rfl (BindsTo.of_eq rfl) (fun x hx => of_decide_eq_true (List.all_eq_true.mp (show ((fdOf w.params 72).scope.names.all fun x => decide (x.2 ≠ .cell)) = true from rfl) x hx)) (by intro p hp; simp only [List.mem_cons, List.not_mem_nil, or_false] at hp; rcases hp with rfl | rfl <;> rfl) (fun h₀ hns hk => ?_) rfl rfl rfl
  generalize hs0 : ({ s with heap := h₀, toks := s.toks + 2 } : Shared) = s0
  have e0 : Kp No No s s0 := by subst hs0; exact Kp.keeps hk
  have hL : At s0 s.heap.objs.size (VarsO [(Str.ofString "tuples", .ref P), (Str.ofString "allitems", .ref I)]) := by
    subst hs0
    refine vars_of hns fun p hp => ?_
    simp only [List.mem_cons, List.not_mem_nil, or_false] at hp
    rcases hp with rfl | rfl <;> rfl
  have hsz := B.size
  have B0 := B.kp e0 (fun _ h => h.elim)
  have x0 := x.kp e0 (fun _ h => h.elim)
  have hRL : ∀ b, R b → b < s.heap.objs.size := fun b hb => (x.rl b hb).lt
  generalize hLd : s.heap.objs.size = L at *
  have hnewL : ∀ (b : Nat) o, s.heap.get? b = some o → b < L := fun b o g => by have := get_lt g; omega
  clear hk hns hs0
  refine wpAny_execs_cons ?_
  refine wpAny_Assign_Name ?_
  refine Call_ ?_
  refine ev_global B0 (.type "collections.defaultdict") ?_
  refine PyProof.Rows.callWith_type1 ?_
  refine spliced_cons ?_
  refine ev_builtin B0 boot_set ?_
  refine spliced_nil ?_
  have ltL := hL.lt
  refine call_dd fun s1 D e1 hD d1 => ?_
  refine st_local [(Str.ofString "tuples", .ref P), (Str.ofString "allitems", .ref I)] (hL.kp e1 id) (by simp (decide := true)) fun s2 e2 l2 => ?_
  refine wpAny_execs_cons ?_
  have ltD := d1.lt
  have d2 := (DDS.empty (w := w) d1).kp e2 (by omega) (fun p hp => by simp at hp)
  have k02 : Kp (fun b => L ≤ b) No s0 s2 := (kp_no e1).trans (e2.mono (fun b _ _ h => by omega) fun _ _ h => h)
  have hP2 := (x0.pairs.to hRL).kp k02 (fun b hb h => Nat.lt_irrefl _ (Nat.lt_of_lt_of_le hb h))
  refine fill_loop false (by exact hh) l2 d2 (by unfold sysModules; omega) (by omega) hP2 (Nat.le_refl _) x.p7 rfl (.head _) (.tail _ (.head _)) (by simp (decide := true)) (fun s3 tb l3 e3 d3 htb => ?_)
  have k03 : Kp (fun b => L ≤ b) No s0 s3 := k02.trans (e3.mono (fun b _ _ h => by omega) fun _ _ h => h)
  have B3 : Bs w s3.heap := B0.kp k03 (by omega)
  refine wpAny_execs_cons ?_
  refine wpAny_Assign_Name ?_
  refine Call_ ?_
  refine ev_builtin B3 boot_set ?_
  refine PyProof.Rows.callWith_type1 ?_
  refine spliced_cons ?_
  refine ev_local l3 (.head _) ?_
  refine spliced_nil ?_
  have ltD3 := d3.obj.lt
  refine call_set_dd (by exact hh) d3.obj (by unfold sysModules; omega) d3.small fun s4 N ks e4 hN n4 hks => ?_
  have ltN := n4.lt
  have ltL3 := l3.lt
  refine st_local [(Str.ofString "edges", .ref D)] (l3.kp e4 id) (by simp (decide := true)) fun s5 e5 l5 => ?_
  have htb4 : ∀ p ∈ tb, p.2 < N := fun p hp => by have := d3.lt hp; omega
  have n5 := n4.kp e5 (by omega)
  have d5 := (d3.kp e4 id (fun _ _ => id)).kp e5 (by omega) (fun p hp => by have := htb p hp; omega)
  have k05 : Kp (fun b => L ≤ b) No s0 s5 := (k03.trans (kp_no e4)).trans (e5.mono (fun b _ _ h => by omega) fun _ _ h => h)
  have B5 : Bs w s5.heap := B0.kp k05 (by omega)
  have ltN5 := n5.lt
  refine wpAny_execs_cons ?_
  refine wpAny_Assign_Name ?_
  refine Call_ ?_
  refine ev_builtin B5 boot_set ?_
  refine callWith_type0 ?_
  refine call_set_empty fun s6 OUT e6 hO o6 => ?_
  have ltO6 := o6.lt
  refine st_local [(Str.ofString "nodes_to_test", .ref N), (Str.ofString "edges", .ref D)] (l5.kp e6 id) (by simp (decide := true)) fun s7 e7 l7 => ?_
  have hNO : N < OUT := by omega
  have n7 := (n5.kp e6 id).kp e7 (by omega)
  have d7 := (d5.kp e6 id (fun _ _ => id)).kp e7 (by omega) (fun p hp => by have := htb p hp; omega)
  have o7 := o6.kp e7 (by omega)
  have k07 : Kp (fun b => L ≤ b) No s0 s7 := (k05.trans (kp_no e6)).trans (e7.mono (fun b _ _ h => by omega) fun _ _ h => h)
  obtain ⟨r, hr⟩ := x.acy
  have hr' : ∀ q ∈ kvOf false ps, r q.1 < r q.2 := fun q hq => by
    obtain ⟨p, hp, rfl⟩ := List.mem_map.mp hq
    exact hr (p.2, p.1) (List.mem_map.mpr ⟨p, hp, rfl⟩)
  have hkv7 : ∀ q ∈ kvOf false ps, q.2 < 7 := fun q hq => by
    obtain ⟨p, hp, rfl⟩ := List.mem_map.mp hq
    exact (x.p7 p hp).2
  obtain ⟨oN, gN, hoN⟩ := id n7
  refine wpAny_execs_cons ?_
  refine wpAny_For ?_
  refine ev_local l7 (.tail _ (.head _)) ?_
  have ltN7 := n7.lt; have ltO7 := o7.lt; have ltD7 := d7.obj.lt
  refine loop_set (by exact hh) gN hoN (FcJ w s0 L N D OUT oN (kvOf false ps)) (fun it s' hit e => ?_) (fun it s8 s9 hit J e => ?_) (fun it s8 hit J => J.nod) (fun it n s8 y tok hit hy J hi8 => ?_) (fun it s8 hit J => ?_)
  · exact ⟨l7.kp e id, k07.trans (kp_no e), ⟨tb, d7.kp e id fun _ _ => id, fun p hp => by have := htb p hp; have := htb4 p hp; have := d7.lt hp; omega⟩, o7.kp e id, e.keep _ _ id gN⟩
  · obtain ⟨j1, j2, ⟨tb', j3, j4⟩, j5, j6⟩ := J
    exact ⟨j1.kp e (by omega), j2.trans (e.mono (fun b _ _ h => by omega) fun _ _ h => h), ⟨tb', j3.kp e (by omega) (fun p hp h => (j4 p hp).2.2.2.1 h), j4⟩, j5.kp e (by omega), e.keep _ _ (by omega) j6⟩
  · obtain ⟨j1, j2, ⟨tb', j3, j4⟩, j5, j6⟩ := J
    have hy7 : y < 7 := by obtain ⟨_, _, _, _, _, z⟩ := hoN; exact z.lt y hy
    refine wpAny_assign_Name ?_
    refine st_local (fcL N D OUT) j1 (by simp (decide := true)) fun s9 e9 l9 => ?_
    refine wpAny_execs_cons ?_
    refine wpAny_Assign_Name ?_
    refine List_ ?_
    refine spliced_cons ?_
    refine ev_local l9 (.head _) ?_
    refine spliced_nil ?_
    refine new_list (by simp) fun s10 ST e10 hST st10 => ?_
    have lL9 := l9.lt
    have lD8 := j3.obj.lt; have lN8 := get_lt j6; have lit8 := hi8.lt; have lO8 := j5.lt
    have j5' := (j5.kp e9 (by omega)).kp e10 id
    have j6' := e10.keep _ _ id (e9.keep _ _ (by omega) j6)
    have j3' := (j3.kp e9 (by omega) (fun p hp => (j4 p hp).1)).kp e10 id (fun _ _ => id)
    have hi10 := (hi8.kp e9 (by omega)).kp e10 id
    have lD9 := j3'.obj.lt; have lN9 := get_lt (e9.keep _ _ (by omega) j6); have lit9 := (hi8.kp e9 (by omega)).lt; have lO9 := (j5.kp e9 (by omega)).lt
    have lD9' := (j3.kp e9 (by omega) (fun p hp => (j4 p hp).1)).obj.lt
    have ltST := st10.lt
    refine st_local (fcL N D OUT) (l9.kp e10 id) (by simp (decide := true)) fun s11 e11 l11 => ?_
    have st11 := st10.kp e11 (by omega)
    have nat1 : NatsAre [Value.int (y : Nat) tok] [y] := NatsAre.nil.snoc y tok
    have n11 : At s11 N (SetO (ledOf w) true ks) := ⟨oN, e11.keep _ _ (by omega) j6', hoN⟩
    refine wpAny_execs_cons ?_
    refine wpAny_Assign_Name ?_
    refine wpAny_Call_method rfl rfl rfl F.plainAttrs_set F.slot_set_difference F.type_set_difference ?_
    refine ev_local l11 (.tail _ (.tail _ (.head _))) ?_
    refine ⟨setO_typeIs n11, setO_noDict n11, ?_⟩
    refine PyProof.Rows.callWith_method1 ?_
    refine spliced_cons ?_
    refine ev_local l11 (.head _) ?_
    refine spliced_nil ?_
    have st11n : At s11 ST (NatsO [y]) := st11.imp fun o ho => ⟨_, ho, nat1⟩
    refine call_difference (by exact hh) n11 st11n (by simp; exact hy7) (by omega) fun s12 TD c' e12 hTD t12 => ?_
    have aST := st11.above hTD; have aN := n11.above hTD; have aL := l11.above hTD; have aD := (j3'.obj.kp e11 (by omega)).above hTD
    have aO := (j5'.kp e11 (by omega)).above hTD; have ait := (hi10.kp e11 (by omega)).above hTD
    refine st_local ((Str.ofString "stack", .ref ST) :: fcL N D OUT) (l11.kp e12 id) (by simp (decide := true)) fun s13 e13 l13 => ?_
    refine wpAny_execs_cons ?_
    obtain ⟨oI, gI, hI⟩ := ((hi10.kp e11 (by omega)).kp e12 id).kp e13 (by omega)
    have j3'' := ((j3'.kp e11 (by omega) (fun p hp => (j4 p hp).1)).kp e12 id (fun _ _ => id)).kp e13 (by omega) (fun p hp => (j4 p hp).1)
    have atb : ∀ p ∈ tb', p.2 < TD ∧ p.2 < ST := fun p hp => by
      constructor
      · obtain ⟨ks', h1, _⟩ := (j3'.kp e11 (by omega) (fun p hp => (j4 p hp).1)).sets p hp
        exact h1.above hTD
      · obtain ⟨ks', h1, _⟩ := (j3.kp e9 (by omega) (fun p hp => (j4 p hp).1)).sets p hp
        have := h1.lt; omega
    have hkp : Kp (fun b => L ≤ b) No s0 s13 := ((((j2.trans (e9.mono (fun b _ _ h => by omega) fun _ _ h => h)).trans (kp_no e10)).trans (e11.mono (fun b _ _ h => by omega) fun _ _ h => h)).trans (kp_no e12)).trans (e13.mono (fun b _ _ h => by omega) fun _ _ h => h)
    have hW : FcW w s0 L N D OUT oN (kvOf false ps) it oI ST TD r (2 * (ks.filter fun z => ! [y].contains z).length + 1) s13 :=
      ⟨l13, hkp, ⟨tb', j3'', fun p hp => by have := j4 p hp; have := atb p hp; omega⟩, ((j5'.kp e11 (by omega)).kp e12 id).kp e13 (by omega), e13.keep _ _ (by omega) (e12.keep _ _ id (e11.keep _ _ (by omega) j6')), gI,
        [y], _, c', _, (st11.kp e12 id).kp e13 (by omega), nat1, by simp, by simp; exact hy7, t12.kp e13 (by omega), rfl⟩
    refine fc_while (by exact hh) (by omega) hr' hkv7 (by omega) hW fun s14 n' hW' => ?_
    refine wpAny_execs_nil ?_
    obtain ⟨z1, z2, ⟨tb'', z3, z4⟩, z5, z6, z7, _⟩ := hW'
    exact ⟨⟨vars_sub z1 fun p hp => .tail _ (.tail _ hp), z2, ⟨tb'', z3, fun p hp => by have := z4 p hp; omega⟩, z5, z6⟩, ⟨oI, z7, hI⟩⟩
  · obtain ⟨j1, j2, ⟨tb', j3, j4⟩, j5, j6⟩ := J
    refine wpAny_execs_nil ?_
    show wpAny _ _ (execs [_] _) _ _ s8
    refine wpAny_execs_cons ?_
    refine wpAny_Return_some ?_
    refine ev_local j1 (.head _) ?_
    refine hQ s8 OUT ?_ (fun (b : Nat) o g => by have := hnewL b o g; omega) j5
    exact kp_new (P' := No) e0 j2 fun (b : Nat) o g h => by have := hnewL b o g; exact absurd (show L ≤ b from h) (by omega)
end
end Mine
end FC3Part

section Lists5Part
open PySem PySem.W PyProof.Rows PySem.Calls
namespace Mine
section
variable {prog : Program} {w : World} {A : Around} {E : Value → Shared → Prop} {s : Shared} {l b : Nat} {vs ws : List Value} {ns : List Nat}

theorem add_lists' (hl : At s l (ListO vs)) (hb : At s b (ListO ws)) (hsz : vs.length + ws.length ≤ 1000) {Q : Value → Shared → Prop}
    (hQ : ∀ s' D, Kp No No s s' → D = s.heap.objs.size → At s' D (ListO (vs ++ ws)) → Q (.ref D) s') : wpAny (model prog w) A (binaryOp .Add (.ref l) (.ref b)) Q E s := by
  obtain ⟨⟨cls, dd, data, sl⟩, ho, hc, hdn, n, hd⟩ := id hl
  obtain ⟨⟨cls2, dd2, data2, sl2⟩, ho2, hc2, hdn2, n2, hd2⟩ := id hb
  simp only at hc hd hc2 hd2
  subst hc hd hc2 hd2
  have e : vs.toArray ++ ws.toArray = (vs ++ ws).toArray := by simp
  refine concat_meets ⟨_, ho, rfl⟩ ⟨_, ho2, rfl⟩ noFill_list_add seq_list_add PySem.F.slot_list_add PySem.F.entry_list_add (PySem.F.args_list_add_2 _ _) (list_addW l b vs.toArray ws.toArray n n2 dd dd2 sl sl2 (by simp [sizeLine_eq]; omega)) ⟨ho, ho2, ?_⟩
  rw [e]
  exact hQ _ _ (Kp.push (tk := s.toks)) rfl (At.push rfl ⟨rfl, rfl, 0, rfl⟩)

theorem max_nats (hh : A.handled = none) (hl : At s l (ListO vs)) (hi : NatsAre vs ns) (hne : ns ≠ []) {Q : Value → Shared → Prop}
    (hQ : ∀ s' M t, Kp No No s s' → M ∈ ns → (∀ a, a ∈ ns → a ≤ M) → Q (.int (M : Nat) t) s') : wpAny (model prog w) A (call (.builtin "max") [.ref l]) Q E s := by
  have hL := listO_isList hl
  have hi' : IntsAre vs (ns.map fun k : Nat => (k : Int)) := hi
  obtain ⟨xs, e⟩ := hi'.allInts.items
  have hns : (ns.map fun k : Nat => (k : Int)) = xs.toList.map (·.1) := by
    rw [← hi'.numsOf, ← nums_intItems, ← e]
  have hsz : 0 < xs.size := by
    have h3 : 0 < ns.length := List.length_pos_iff.mpr hne
    have := congrArg List.length hns
    simp at this; omega
  rw [e] at hL
  refine max_intList hh hL hsz fun v h' tk hv hk => ?_
  obtain ⟨t, rfl⟩ := intItems_at hv
  obtain ⟨h1, h2⟩ := argBest_gt (numAt xs) (xs.size - 1)
  have hmem : ∀ j, j < xs.size → ∃ k ∈ ns, numAt xs j = (k : Nat) := fun j hj => by
    have : numAt xs j ∈ ns.map fun k : Nat => (k : Int) := by rw [hns, numAt_eq]; exact getD_mem (by rw [List.length_map, Array.length_toList]; exact hj)
    obtain ⟨k, hk, he⟩ := List.mem_map.mp this
    exact ⟨k, hk, he.symm⟩
  obtain ⟨M, hM, heM⟩ := hmem (argBest (fun i j => decide (numAt xs i > numAt xs j)) (xs.size - 1)) (by omega)
  rw [heM]
  refine hQ _ M t (Kp.keeps (tk := tk) hk) hM fun a ha => ?_
  have ha' : ((a : Nat) : Int) ∈ xs.toList.map (·.1) := by rw [← hns]; exact List.mem_map_of_mem ha
  obtain ⟨j, hj, hj'⟩ := mem_getD ha'
  rw [List.length_map, Array.length_toList] at hj
  have := h2 j (by omega)
  rw [heM, numAt_eq, hj'] at this
  omega
end
end Mine
end Lists5Part

section LonPart
open PySem PySem.W PyProof.Rows PySem.Calls
namespace Mine

def maxL (l : List Nat) : Nat := l.foldl max 0
theorem foldl_max (l : List Nat) : ∀ a, (a ≤ l.foldl max a ∧ ∀ x ∈ l, x ≤ l.foldl max a) ∧ (l.foldl max a = a ∨ l.foldl max a ∈ l) := by
  induction l with
  | nil => intro a; simp
  | cons y l ih =>
    intro a
    obtain ⟨⟨h1, h2⟩, h3⟩ := ih (max a y)
    rw [List.foldl_cons]
    refine ⟨⟨by omega, fun x hx => ?_⟩, ?_⟩
    · rcases List.mem_cons.mp hx with rfl | hx
      · omega
      · exact h2 x hx
    · rcases h3 with h | h
      · rw [h]
        rcases Nat.le_total a y with h' | h'
        · right; rw [Nat.max_eq_right h']; simp
        · left; exact Nat.max_eq_left h'
      · exact .inr (List.mem_cons_of_mem _ h)
theorem le_maxL {l : List Nat} {x : Nat} (h : x ∈ l) : x ≤ maxL l := (foldl_max l 0).1.2 x h
theorem maxL_mem (l : List Nat) : maxL l = 0 ∨ maxL l ∈ l := (foldl_max l 0).2
theorem maxL_eq {l : List Nat} {M : Nat} (h : M ∈ l ++ [0]) (h2 : ∀ a ∈ l ++ [0], a ≤ M) : M = maxL l := by
  have h3 : maxL l ≤ M := by
    rcases maxL_mem l with h | h
    · omega
    · exact h2 _ (by simp [h])
  have h4 : M ≤ maxL l := by
    rcases List.mem_append.mp h with h | h
    · exact le_maxL h
    · simp at h; omega
  omega

/-- the longest row of items from x on -/
def Lf (kv : List (Nat × Nat)) : Nat → Nat → Nat
  | 0, _ => 1
  | n + 1, x => 1 + maxL ((kv.filter fun q => q.1 == x).map fun q => Lf kv n q.2)

theorem Lf_step {kv : List (Nat × Nat)} {h : Nat → Nat} (hd : ∀ q ∈ kv, h q.2 < h q.1) : ∀ n x, h x ≤ n → Lf kv (n + 1) x = Lf kv n x := by
  intro n
  induction n with
  | zero =>
    intro x hx
    have : kv.filter (fun q => q.1 == x) = [] := List.filter_eq_nil_iff.mpr fun q hq he => by
      have := hd q hq
      simp at he; subst he; omega
    simp [Lf, this, maxL]
  | succ n ih =>
    intro x hx
    have e : ((kv.filter fun q => q.1 == x).map fun q => Lf kv (n + 1) q.2) = ((kv.filter fun q => q.1 == x).map fun q => Lf kv n q.2) :=
      List.map_congr_left fun q hq => by
        obtain ⟨hq, he⟩ := List.mem_filter.mp hq
        have := hd q hq
        simp at he; subst he
        exact ih _ (by omega)
    show 1 + maxL ((kv.filter fun q => q.1 == x).map fun q => Lf kv (n + 1) q.2) = 1 + maxL ((kv.filter fun q => q.1 == x).map fun q => Lf kv n q.2)
    rw [e]

noncomputable abbrev envLon (P : Params) (L : Nat) : Env := callEnvC (fdOf P 82) L 82

section
variable {prog : Program} {w : World}

/-- the list of what is called so far -/
abbrev lonSel (ps : List (Nat × Nat)) (x n : Nat) (i : Nat) : List Nat := ((ps.take i).filter fun q => q.1 == x).map fun q => Lf ps n q.2

structure LonJ (s0 : Shared) (D C : Nat) (ps : List (Nat × Nat)) (x n it i : Nat) (s1 : Shared) : Prop where
  vars : At s1 C (VarsO [])
  kp : Kp (fun b => b = D ∨ b = C ∨ b = it) No s0 s1
  out : ∃ ws, At s1 D (ListO ws) ∧ NatsAre ws (lonSel ps x n i)

theorem lon_call {P : Nat} {ps : List (Nat × Nat)} {R : Nat → Prop} {h : Nat → Nat} (hd : ∀ q ∈ ps, h q.2 < h q.1) (hlen : ps.length ≤ 900) :
    ∀ n A s x tk E (Q : Value → Shared → Prop), h x < n → A.handled = none → A.depth + n < recursionLimit → Bs w s.heap → PairsR s R P ps → (∀ b, R b → Live s b) →
      (∀ s' t, Kp No No s s' → Q (.int (Lf ps n x : Nat) t) s') → wpAny (model prog w) A (call (.ref 82) [.ref P, .int (x : Nat) tk]) Q E s := by
  intro n
  induction n with
  | zero => intro A s x tk E Q hx; omega
  | succ n ih =>
    intro A s x tk E Q hx hh hroom B hP hR hQ
    refine wpAny_call ?_
    refine codeAny_call_cells (fd := fdOf w.params 82) (body := bodyOf (fdOf w.params 82)) (binds := [(Str.ofString "pairs", .ref P), (Str.ofString "item", .int (x : Nat) tk)]) (by omega) (B.K 82 _ rfl) rfl B.nolimit ⟨81, _, _, _, rfl, B.K 81 _ rfl, rfl, rfl⟩ rfl rfl rfl
      (by intro p hp; simp only [List.mem_cons, List.not_mem_nil, or_false] at hp; rcases hp with rfl | rfl <;> exact .inr ⟨rfl, rfl⟩) (fun s1 hcall => ?_) rfl rfl rfl
    obtain ⟨h', tk', hs, hk⟩ := hcall.done
    have hc1 : At s1 (s.heap.objs.size + 1) (CellO (some (.ref P))) := hcall.cell (Str.ofString "pairs") (s.heap.objs.size + 1) rfl
    have hc2 : At s1 (s.heap.objs.size + 1 + 1) (CellO (some (.int (x : Nat) tk))) := hcall.cell (Str.ofString "item") (s.heap.objs.size + 1 + 1) rfl
    have hLv : At s1 s.heap.objs.size (VarsO []) := vars_of hcall.toInCall.ns (fun p hp => by simp at hp)
    have e1 : Kp No No s s1 := by rw [hs]; exact Kp.keeps hk
    clear hcall hs hk
    generalize hLd : s.heap.objs.size = L at *
    have hsz := B.size
    have B1 := B.kp e1 (fun _ h => h.elim)
    have hP1 := hP.on fun b o _ g => e1.keep b o id g
    have hR1 : ∀ b, R b → Live s1 b := fun b hb => (hR b hb).kp e1 id
    refine wpAny_execs_cons ?_
    refine wpAny_Return_some ?_
    refine wpAny_BinOp ?_
    refine wpAny_Constant_int ?_
    have e2 : Kp No No s1 { s1 with toks := s1.toks + 1 } := Kp.toks
    generalize hs2 : ({ s1 with toks := s1.toks + 1 } : Shared) = s2 at e2 ⊢
    clear hs2
    have B2 := B1.kp e2 (fun _ h => h.elim)
    have hP2 := hP1.on fun b o _ g => e2.keep b o id g
    have hR2 : ∀ b, R b → Live s2 b := fun b hb => (hR1 b hb).kp e2 id
    refine Call_ ?_
    refine ev_builtin B2 boot_max ?_
    refine PyProof.Rows.callWith_builtin1 ?_
    refine spliced_cons ?_
    refine wpAny_BinOp ?_
    refine comp_open (cl := [(Str.ofString "pairs", L + 1), (Str.ofString "item", L + 1 + 1)]) rfl rfl (by decide) (by decide) rfl (fun _ => rfl) ?_
    refine ev_cell (hc1.kp e2 id) ?_
    obtain ⟨vs, hls, hRP, hvl, hat⟩ := hP2
    refine iter_list hls fun s3 it e3 hit i3 => ?_
    intro s4 D C e4 hD hDC d4 c4
    have hit4 := i3.kp e4 id
    have hitD := i3.above hD
    have e24 : Kp No No s2 s4 := e3.trans e4
    have lt2 : ∀ {b φ}, At s2 b φ → b < it := fun h => by have := h.lt; omega
    have ltC1 := lt2 (hc1.kp e2 id); have ltC2 := lt2 (hc2.kp e2 id)
    have hR4 : ∀ b, R b → b < it := fun b hb => by have := (hR2 b hb).lt; omega
    refine comp_list (l := P) (vs := vs) (by exact hh) hit4 (LonJ s4 D C ps x n it) ?_ ?_ ?_ ?_ ?_
    · exact ⟨c4, Kp.refl s4, [], d4, by simpa [lonSel] using NatsAre.nil⟩
    · intro i s5 s6 ⟨j1, j2, ws, j3, j4⟩ e
      exact ⟨j1.kp e (by omega), j2.trans (e.mono (fun b _ _ h => .inr (.inr h)) fun _ _ h => h), ws, j3.kp e (by omega), j4⟩
    · intro i s5 J
      exact (hls.kp e24 id).kp J.kp (by have := hR4 _ hRP; omega)
    · intro i s5 v hiv hvv ⟨j1, j2, ws, j3, j4⟩ hi5
      have hip : i < ps.length := by omega
      obtain ⟨q, hqR, hq, hqp⟩ := hat i hip
      rw [hq] at hvv; cases hvv
      have hqp5 := (hqp.kp e24 id).kp j2 (by have := hR4 _ hqR; omega)
      refine owned_tuple hi5 ?_
      refine assign_pair (by exact hh) hqp5 [] j1 (by simp) (by decide) (fun s6 ta tb e6 l6 => ?_) rfl rfl rfl rfl
      have j2' := j2.trans (e6.mono (P' := fun b => b = D ∨ b = C ∨ b = it) (fun b _ _ h => .inr (.inl h)) fun _ _ h => h)
      have d6 := j3.kp e6 (by omega)
      have hi6 := hi5.kp e6 (by omega)
      have hc1' := ((hc1.kp e2 id).kp e24 id).kp j2' (by omega)
      have hc2' := ((hc2.kp e2 id).kp e24 id).kp j2' (by omega)
      show wpAny _ _ (forIn [_] true _) _ _ s6
      rw [List.forIn_cons]
      refine wpAny_bind ?_
      rw [if_pos rfl]
      refine wpAny_bind ?_
      refine wpAny_isTrue_Compare1 ?_
      refine ev_local l6 (.tail _ (.head _)) ?_
      refine ev_cell hc2' ?_
      refine PyProof.Rows.eq_int ?_
      refine wpAny_truthy_bool ?_
      refine wpAny_pure ?_
      show wpAny _ _ (pure _) _ _ s6
      refine wpAny_pure ?_
      have htake : lonSel ps x n (i + 1) = lonSel ps x n i ++ (if ps[i].1 == x then [Lf ps n ps[i].2] else []) := by
        unfold lonSel
        rw [List.take_succ_eq_append_getElem hip, List.filter_append, List.map_append]
        congr 1
        by_cases h : (ps[i].1 == x) = true <;> simp [h]
      by_cases hm : ps[i].1 = x
      · rw [if_pos (by simp [hm])]
        rw [if_pos (by simp [hm])] at htake
        have B6 : Bs w s6.heap := (B2.kp e24 (fun _ h => h.elim)).kp j2' (fun b h => by omega)
        refine Call_ ?_
        refine ev_global B6 (.ref 82) ?_
        refine call_fn (fd := fdOf w.params 82) rfl rfl ?_
        refine spliced_cons ?_
        refine ev_cell hc1' ?_
        refine spliced_cons ?_
        refine ev_local l6 (.head _) ?_
        refine spliced_nil ⟨B6, ?_⟩
        have hdi := hd _ (List.getElem_mem hip)
        have hP6 : PairsR s6 R P ps := ⟨vs, ((hls.kp e24 id).kp j2' (by have := hR4 _ hRP; omega)), hRP, hvl, fun i h => let ⟨y, h1, h2, h3⟩ := hat i h; ⟨y, h1, h2, (h3.kp e24 id).kp j2' (by have := hR4 _ h1; omega)⟩⟩
        refine ih _ s6 ps[i].2 tb _ _ (by rw [← hm] at hx; omega) (by exact hh) (by show A.depth + 1 + n < recursionLimit; omega) B6 hP6 (fun b hb => ((hR2 b hb).kp e24 id).kp j2' (by have := hR4 _ hb; omega)) fun s7 t7 e7 => ?_
        have hws : ws.length ≤ 1000 := by
          rw [j4.length]
          have h1 := List.length_filter_le (fun q => q.1 == x) (ps.take i)
          have h2 := List.length_take_le i ps
          simp only [lonSel, List.length_map]
          omega
        refine call_append (d6.kp e7 id) hws fun s8 e8 d8 => ?_
        refine ⟨⟨(vars_sub (l6.kp e7 id) (by simp)).kp e8 (by omega), (j2'.trans (kp_no e7)).trans (e8.mono (fun b _ _ h => .inl h) fun _ _ h => h), _, d8, ?_⟩, (hi6.kp e7 id).kp e8 (by omega)⟩
        rw [htake]; exact j4.snoc _ t7
      · rw [if_neg (by simp; omega)]
        rw [if_neg (by simpa using hm)] at htake
        exact ⟨⟨vars_sub l6 (by simp), j2', ws, d6, by rw [htake, List.append_nil]; exact j4⟩, hi6⟩
    · intro s5 ⟨j1, j2, ws, j3, j4⟩
      refine ⟨⟨_, rfl⟩, j1, fun s6 e6 => ?_⟩
      rw [show vs.length = ps.length from hvl, lonSel, List.take_length] at j4
      have d6 := j3.kp e6 (by omega)
      have e26 : Kp No No s2 s6 := kp_new (P' := No) e24 (j2.trans (e6.mono (P' := fun b => b = D ∨ b = C ∨ b = it) (fun b _ _ h => .inr (.inl h)) fun _ _ h => h)) fun (b : Nat) o g h => by
        have h1 := get_lt g
        have h3 : b = D ∨ b = C ∨ b = it := h
        exact absurd h1 (by omega)
      refine List_ ?_
      refine spliced_cons ?_
      refine wpAny_Constant_int (k := 0) (pos := ⟨0, 0, 0, 0⟩) ?_
      have e7 : Kp No No s6 { s6 with toks := s6.toks + 1 } := Kp.toks
      generalize hs7 : ({ s6 with toks := s6.toks + 1 } : Shared) = s7 at e7 ⊢
      refine spliced_nil ?_
      refine new_list (by simp) fun s8 Z e8 hZ z8 => ?_
      have hws : ws.length ≤ 900 := by
        rw [j4.length]
        have h1 := List.length_filter_le (fun q => q.1 == x) ps
        simp only [List.length_map]; omega
      refine add_lists' ((d6.kp e7 id).kp e8 id) z8 (by simp; omega) fun s9 Y e9 hY y9 => ?_
      refine spliced_nil ?_
      have hall : NatsAre (ws ++ [.int 0 s6.toks]) (((ps.filter fun q => q.1 == x).map fun q => Lf ps n q.2) ++ [0]) := j4.snoc 0 s6.toks
      refine max_nats (by exact hh) y9 hall (by simp) fun s10 M t10 e10 hM1 hM2 => ?_
      have hMe := maxL_eq hM1 hM2
      refine add_int ?_
      have e11 : Kp No No s s10 := ((((((e1.trans e2).trans e26).trans e7).trans e8).trans e9).trans e10)
      have hval : (1 : Int) + (M : Nat) = ((Lf ps (n + 1) x : Nat) : Int) := by
        rw [hMe]; show _ = ((1 + maxL _ : Nat) : Int); omega
      rw [hval]
      exact hQ _ _ (e11.trans (Kp.toks (tk := s10.toks + 1)))
end
end Mine
end LonPart

section LawOpsPart
open PySem PySem.W PyProof.Rows PySem.Calls
namespace Mine

/-- a list of ints, whatever its dict -/
def SeqO (vs : List Value) (o : Obj) : Prop := o.cls = .type "list" ∧ ∃ n, o.data = .seq vs.toArray n
theorem ListO.seq {vs o} (h : ListO vs o) : SeqO vs o := ⟨h.1, h.2.2⟩

section
variable {prog : Program} {w : World} {A : Around} {E : Value → Shared → Prop} {s : Shared} {env : Env}

theorem seq_isList {l : Nat} {vs : List Value} (h : At s l (SeqO vs)) : s.heap.IsList l vs.toArray := let ⟨o, g, hc, n, hd⟩ := h; ⟨o, g, hc, n, hd⟩

theorem sub_tail {value slice : Expr} {o i : Value} {T id : String} {ops : List Value} {Q : Value → Shared → Prop} (hT : s.TypeIs o T)
    (hl : typeLookup (.type T) "__getitem__" = pure (some (.builtin id))) (h : wpAny (model prog w) A (getItem o i) Q E s)
    (hs : subscripted slice false o i = operate ops (getItem o i)) :
    wpAny (model prog w) A (subscriptTail value slice o i) Q E s := by
  unfold subscriptTail
  refine wpAny_bind ?_
  rw [getitemInPython_of_ne hT.not_modules]
  refine wpAny_bind (wpAny_specialOf hT hl ?_)
  have fin : wpAny (model prog w) A (subscripted slice false o i) (fun r s₃ => wpAny (model prog w) A (letTemporaryGo value o r >>= fun _ => pure r) Q E s₃) E s := by
    rw [hs]
    exact wpAny_operating (wpAny_mono h (fun r s₃ h₃ => wpAny_bind (wpAny_letTemporaryGo (wpAny_pure h₃))) fun _ _ x => x)
  first
    | exact wpAny_pure (wpAny_bind fin)
    | exact wpAny_bind (wpAny_pure (wpAny_bind fin))
    | exact wpAny_bind fin

theorem ev_slice {e : Expr} {lo hi : Option Expr} {p1 p2 : Pos} {Q : Value → Shared → Prop}
    (h : wpAny (model prog w) A (eval e env) (fun o s1 => wpAny (model prog w) A (valueOrNone (evalOpt lo env)) (fun vl s2 => wpAny (model prog w) A (valueOrNone (evalOpt hi env)) (fun vu s3 =>
      ∃ (l : Nat) (vs : List Value) (lo' hi' : Option Int), o = .ref l ∧ At s3 l (SeqO vs) ∧ IsPart vl lo' ∧ IsPart vu hi' ∧ vs.length ≤ 1000 ∧
        ∀ s' D, Kp No No s3 s' → Above s3 D → At s' D (ListO ((vs.drop (lo'.elim 0 (clipAt vs.length))).take (hi'.elim vs.length (clipAt vs.length) - lo'.elim 0 (clipAt vs.length)))) → Q (.ref D) s') E s2) E s1) E s) :
    wpAny (model prog w) A (eval (.Subscript e (.Slice lo hi none p1) p2) env) Q E s := by
  refine Subscript_ (wpAny_mono h (fun o s1 h1 => ?_) fun _ _ h => h)
  rw [arm_eval_Slice]
  refine wpAny_bind (wpAny_mono h1 (fun vl s2 h2 => wpAny_bind (wpAny_holding (wpAny_mono h2 (fun vu s3 h3 => ?_) fun _ _ h => h))) fun _ _ h => h)
  obtain ⟨l, vs, lo', hi', rfl, hl, pl, pu, hsz, hQ⟩ := h3
  refine wpAny_bind (wpAny_holding (wpAny_pure (wpAny_newObj_type ?_)))
  have hL := seq_isList hl
  refine sub_tail (Heap.IsList.typeIs (s := { s3 with heap := s3.heap.push { cls := .type "slice", data := .fields #[vl, vu, .none] } }) (hL.push _)) list_getitem_lookup
    (wpAny_getItem_list_slice (hL.push _) (Heap.IsSliceOf.new ..) pl pu .none (by simp) ?_ (by rw [List.size_toArray, sizeLine_eq]; omega)) rfl
  rw [slicePick_plain]
  refine hQ _ _ (Kp.keeps (tk := s3.toks) fun b o hb => Heap.get?_push_of_some _ (Heap.get?_push_of_some _ hb)) (above_le (by rw [Heap.size_push]; omega)) ⟨_, Heap.get?_push_size _ rfl, rfl, rfl, 0, ?_⟩
  simp

theorem unpack2 {l : Nat} {v1 v2 : Value} (hh : A.handled = none) (hl : At s l (ListO [v1, v2])) {Q : List Value → Shared → Prop} (hQ : ∀ s', Kp No No s s' → Q [v1, v2] s') :
    wpAny (model prog w) A (unpackItems (.ref l) 2 none) Q E s := by
  unfold unpackItems
  refine wpAny_bind ?_
  unfold notIterableAtAll
  refine wpAny_bind (wpAny_specialOf (listO_typeIs hl) slot_list_iter.lookup ?_)
  refine wpAny_pure ?_
  simp only [Bool.false_eq_true, if_false]
  refine wpAny_bind (wpAny_holding (iter_list hl fun s1 it e1 hit i1 => ?_))
  have hlt := hl.lt
  have h1 := hl.kp e1 id
  refine wpAny_bind (wpAny_holding ?_)
  show wpAny _ _ (pyNext (.ref it) >>= _) _ _ s1
  refine wpAny_bind (next_item i1 h1 rfl fun s2 e2 i2 => ?_)
  refine wpAny_bind (wpAny_holding ?_)
  show wpAny _ _ (pyNext (.ref it) >>= _) _ _ s2
  have h2 := h1.kp e2 (by omega)
  refine wpAny_bind (next_item i2 h2 rfl fun s3 e3 i3 => ?_)
  refine wpAny_bind (wpAny_holding (wpAny_pure (wpAny_pure (wpAny_pure ?_))))
  rw [if_neg (by simp)]
  have h3 := h2.kp e3 (by omega)
  refine wpAny_bind (wpAny_holding (next_end hh i3 h3 rfl fun s4 e4 => ?_))
  simp only [Option.isSome_none, Bool.false_eq_true, if_false]
  refine wpAny_pure (hQ s4 ?_)
  exact kp_new (P' := No) e1 ((e2.trans e3).trans e4) fun (b : Nat) o g h => by have := get_lt g; exact absurd h (by omega)
end
end Mine
end LawOpsPart

section CompRPart
open PySem PySem.W PyProof.Rows PySem.Calls
namespace Mine

/-- a range's iterator: i done of n -/
def RItO (n i : Nat) (o : Obj) : Prop := o = { cls := .type "range_iterator", dict := none, data := .fields #[rawInt (i : Nat), rawInt ((n : Int) - (i : Nat)), rawInt 1], slots := #[] }

section
variable {prog : Program} {w : World} {A : Around} {E : Value → Shared → Prop} {s : Shared} {env : Env}

theorem rit_is {it n i : Nat} (h : At s it (RItO n i)) : IsRangeIter s.heap it (i : Nat) ((n : Int) - (i : Nat)) 1 := by
  obtain ⟨o, g, e⟩ := h
  unfold RItO at e
  subst e
  exact g

theorem iter_range {n : Nat} {t : Tok} (hn : n < 1000) {Q : Value → Shared → Prop} (hQ : ∀ s' it, Kp No No s s' → Above s it → At s' it (RItO n 0) → Q (.ref it) s') :
    wpAny (model prog w) A (call (.type "range") [.int (n : Nat) t]) (fun x s1 => wpAny (model prog w) A (pyIter x) Q E s1) E s := by
  refine call_range_1 ?_
  refine wpAny_pyIter_range (IsRange.new ..) (small_one (by decide) (by decide) (by omega) (by omega)) ?_
  refine hQ _ _ (Kp.keeps (tk := s.toks + 1 + 1) fun b o hb => Heap.get?_push_of_some _ (Heap.get?_push_of_some _ hb)) (above_le (by show _ ≤ (s.heap.push _).objs.size; rw [Heap.size_push]; omega)) ⟨_, Heap.get?_push_size _ rfl, ?_⟩
  have : Builtin.Range.rangeSize 0 (n : Int) 1 = (n : Int) := by rw [rangeSize_one]; split <;> omega
  unfold RItO
  rw [this]
  simp

theorem next_range {it n i : Nat} (hh : A.handled = none) (hi : At s it (RItO n i)) {Q : Option Value → Shared → Prop}
    (hQ1 : ∀ s' t, i < n → Kp (· = it) No s s' → At s' it (RItO n (i + 1)) → Q (some (.int (i : Nat) t)) s') (hQ2 : ∀ s', n ≤ i → Kp (· = it) No s s' → Q none s') :
    wpAny (model prog w) A (pyNext (.ref it)) Q E s := by
  rcases Nat.lt_or_ge i n with h | h
  · refine wpAny_pyNext_range_item (rit_is hi) (by omega) fun h' h1 h2 => ?_
    refine hQ1 _ _ h (Kp.same (tk := s.toks + 1) h2) ⟨_, h1, ?_⟩
    unfold RItO
    congr 1
    have e1 : ((i : Int) + 1) = ((i + 1 : Nat) : Int) := by omega
    have e2 : (n : Int) - (i : Int) - 1 = (n : Int) - ((i + 1 : Nat) : Int) := by omega
    rw [e1, e2]
  · exact wpAny_pyNext_range_end hh (rit_is hi) (by omega) fun h' he => hQ2 _ h (Kp.ext (tk := s.toks) he)

/-- a comprehension over range(n) -/
theorem comp_range {elt iter : Expr} {x : Str} {px : Pos} {ifs : List Expr} {scope : Scope} {pos : Pos} {it n : Nat} {acc : Value} {R : Result → Shared → Prop} (hh : A.handled = none) (hi : At s it (RItO n 0)) (J : Nat → Shared → Prop)
    (h0 : J 0 s) (keep : ∀ i s1 s2, J i s1 → Kp (· = it) No s1 s2 → J i s2)
    (step : ∀ i s1 t, i < n → J i s1 → At s1 it (RItO n (i + 1)) →
      wpAny (model prog w) A (assign (.Name x px) env (.int (i : Nat) t)) (fun _ s2 => tests (model prog w) A env ifs (fun ok s3 =>
        if ok = true then wpAny (model prog w) A (eval elt env) (fun y s4 => wpAny (model prog w) A (call (.builtin "list.append") [acc, y]) (fun _ s5 => J (i + 1) s5 ∧ At s5 it (RItO n (i + 1))) noE s4) noE s3
        else J (i + 1) s3 ∧ At s3 it (RItO n (i + 1))) s2) noE s1)
    (fin : ∀ s1, J n s1 → R (.ok .next) s1) :
    codeAny (model prog w) A (.compStart (.ListComp elt [⟨.Name x px, iter, ifs, 0⟩] scope pos) 0 (.ref it) acc env) R s := by
  have go : codeAny (model prog w) A (.compLoop (.ListComp elt [⟨.Name x px, iter, ifs, 0⟩] scope pos) 0 (.ref it) acc env) R s := by
    refine comp_turn (fun m s' => ∃ i, i + m = n ∧ J i s' ∧ At s' it (RItO n i)) (fun m s' ⟨i, hn, hJ, hi⟩ => ?_) n ⟨0, by omega, h0, hi⟩
    refine next_range hh hi (fun s2 t hin e2 i2 => ?_) fun s2 hni e2 => ?_
    · refine owned_name ?_
      refine wpAny_mono (step i s2 t hin (keep i s' s2 hJ e2) i2) (fun _ s4 h4 => wpAny_mono h4 (fun ok s5 h5 => ?_) fun _ _ h => h) fun _ _ h => h
      cases ok with
      | true =>
        rw [if_pos rfl] at h5 ⊢
        exact wpAny_mono h5 (fun x s6 h6 => wpAny_mono h6 (fun _ s7 h7 => ⟨m - 1, by omega, i + 1, by omega, h7⟩) fun _ _ h => h) fun _ _ h => h
      | false =>
        rw [if_neg Bool.false_ne_true] at h5 ⊢
        exact ⟨m - 1, by omega, i + 1, by omega, h5⟩
    · have : i = n := by omega
      subst this
      exact fin s2 (keep _ s' s2 hJ e2)
  exact codeAny_compStart_list go (wpAny_pyIter_rangeiter (rit_is hi) go)

/-- a comprehension over a generator -/
theorem comp_gen {α : Type} {d : Nat} {item : α → Value → (Nat → Prop) → Shared → Shared → Prop} {elt iter : Expr} {x : Str} {px : Pos} {ifs : List Expr} {scope : Scope} {pos : Pos} {G g : Nat} {R' V U : Nat → Prop} {xs : List α} {acc : Value} {R : Result → Shared → Prop}
    (hA : Fit d A) (hg : GenAt prog w d item xs s G g R' V U) (B : Bs w s.heap)
    (hi : ∀ x v V' s1 s2 s3 s4, item x v V' s1 s2 → s3.heap = s1.heap → s4.heap = s2.heap → item x v V' s3 s4) (J : Nat → (Nat → Prop) → (Nat → Prop) → Shared → Prop)
    (h0 : J 0 V U s)
    (step : ∀ i V U s1 y v s2 V' U', xs[i]? = some y → J i V U s1 → Kp V (fun i => U i ∨ i = g) s1 s2 → (∀ b, V' b → V b ∨ New s1 b) → (∀ i, U' i → U i ∨ s1.gens.size ≤ i) → item y v V' s1 s2 → GenAt prog w d item (xs.drop (i + 1)) s2 G g R' V' U' → Bs w s2.heap →
      wpAny (model prog w) A (assign (.Name x px) env v) (fun _ s3 => tests (model prog w) A env ifs (fun ok s4 =>
        if ok = true then wpAny (model prog w) A (eval elt env) (fun y s5 => wpAny (model prog w) A (call (.builtin "list.append") [acc, y]) (fun _ s6 => J (i + 1) V' U' s6 ∧ GenAt prog w d item (xs.drop (i + 1)) s6 G g R' V' U' ∧ Bs w s6.heap) noE s5) noE s4
        else J (i + 1) V' U' s4 ∧ GenAt prog w d item (xs.drop (i + 1)) s4 G g R' V' U' ∧ Bs w s4.heap) s3) noE s2)
    (fin : ∀ s1 V U s2, J xs.length V U s1 → Kp V (fun i => U i ∨ i = g) s1 s2 → Bs w s2.heap → R (.ok .next) s2) :
    codeAny (model prog w) A (.compStart (.ListComp elt [⟨.Name x px, iter, ifs, 0⟩] scope pos) 0 (.ref G) acc env) R s := by
  have go : codeAny (model prog w) A (.compLoop (.ListComp elt [⟨.Name x px, iter, ifs, 0⟩] scope pos) 0 (.ref G) acc env) R s := by
    refine comp_turn (fun m s' => ∃ i V U, i + m = xs.length ∧ J i V U s' ∧ GenAt prog w d item (xs.drop i) s' G g R' V U ∧ Bs w s'.heap) (fun m s' ⟨i, V, U, hn, hJ, hg, B⟩ => ?_) xs.length ⟨0, V, U, by omega, h0, hg, B⟩
    cases hx : xs[i]? with
    | none =>
      have hlen : xs.length ≤ i := List.getElem?_eq_none_iff.mp hx
      have : i = xs.length := by omega
      subst this
      rw [List.drop_length] at hg
      exact hg.stop hA B fun s2 e2 B2 => fin s' V U s2 hJ e2 B2
    | some y =>
      have hlt : i < xs.length := (List.getElem?_eq_some_iff.mp hx).1
      have hy : xs[i] = y := by rw [List.getElem?_eq_getElem hlt] at hx; exact Option.some.inj hx
      rw [List.drop_eq_getElem_cons hlt, hy] at hg
      refine hg.next hA B (hi y) fun v s2 V' U' e2 B2 hV hU hit hg2 => ?_
      refine owned_name ?_
      refine wpAny_mono (step i V U s' y v s2 V' U' hx hJ e2 hV hU hit hg2 B2) (fun _ s4 h4 => wpAny_mono h4 (fun ok s5 h5 => ?_) fun _ _ h => h) fun _ _ h => h
      cases ok with
      | true =>
        rw [if_pos rfl] at h5 ⊢
        exact wpAny_mono h5 (fun x s6 h6 => wpAny_mono h6 (fun _ s7 h7 => ⟨m - 1, by omega, i + 1, V', U', by omega, h7⟩) fun _ _ h => h) fun _ _ h => h
      | false =>
        rw [if_neg Bool.false_ne_true] at h5 ⊢
        exact ⟨m - 1, by omega, i + 1, V', U', by omega, h5⟩
  exact codeAny_compStart_list go (pyIter_gen hg.gen go)
end
end Mine
end CompRPart

section CompNPart
open PySem PySem.W PyProof.Rows PySem.Calls
namespace Mine

/-- a step on new objects alone -/
theorem Kp.news {P : Nat → Prop} {s0 s1 s2 : Shared} (x : Kp No No s0 s1) (y : Kp P No s1 s2) (h : ∀ b, P b → Above s0 b) : Kp No No s0 s2 :=
  kp_new (P' := No) x y fun (b : Nat) o g hp => Nat.lt_irrefl _ (h b hp b o g)

section
variable {prog : Program} {w : World} {A : Around} {E : Value → Shared → Prop} {s : Shared} {env : Env}

structure NatJ (s0 : Shared) (D C it : Nat) (out : List Nat) (s1 : Shared) : Prop where
  vars : At s1 C (VarsO [])
  kp : Kp No No s0 s1
  out : ∃ ws, At s1 D (ListO ws) ∧ NatsAre ws out

theorem comp_nats_range {elt iter : Expr} {x : Str} {px : Pos} {scope : Scope} {pos : Pos} {cl : List (Str × Addr)} {n : Nat} {Q : Value → Shared → Prop} (v : Nat → Nat) (hn : n ≤ 900) (hh : A.handled = none)
    (hclos : closureFor scope env = pure cl) (hkind : scope.kind = .function) (hnames : ∀ x ∈ scope.names, x.2 = .local → scope.names.lookup x.1 = some .local) (hcell : ∀ y ∈ scope.names, y.2 ≠ .cell)
    (hs : ∀ x, foldedSetIterable iter env x = pure x) (hk : ∀ C, (compEnvC scope cl C env).scope.kind = .function) (hx : ∀ C, (compEnvC scope cl C env).kindOf x = some .local)
    (hiter : ∀ Q : Value → Shared → Prop, (∀ s' it, Kp No No s s' → Above s it → At s' it (RItO n 0) → Q (.ref it) s') → wpAny (model prog w) A (eval iter env) (fun x s1 => wpAny (model prog w) A (pyIter x) Q noE s1) noE s)
    (helt : ∀ C i t s1, i < n → Kp No No s s1 → At s1 C (VarsO [(x, .int (i : Nat) t)]) → Above s C → wpAny (model prog w) A (eval elt (compEnvC scope cl C env)) (fun y s2 => (∃ t', y = .int (v i : Nat) t') ∧ Kp No No s1 s2) noE s1)
    (hQ : ∀ s' D ws, Kp No No s s' → Above s D → At s' D (ListO ws) → NatsAre ws ((List.range n).map v) → Q (.ref D) s') :
    wpAny (model prog w) A (eval (.ListComp elt [⟨.Name x px, iter, [], 0⟩] scope pos) env) Q E s := by
  refine comp_open hclos hkind hnames hcell rfl hs (hiter _ fun s2 it e2 hit i2 => ?_)
  intro s4 D C e4 hD hDC d4 c4
  have hitD := i2.above hD
  have hDs : Above s D := hD.kp e2
  have hCs : Above s C := fun b o g => Nat.lt_trans (hDs b o g) hDC
  refine comp_range hh (i2.kp e4 id) (fun i s1 => NatJ s D C it ((List.range i).map v) s1) ⟨c4, e2.trans e4, [], d4, by simpa using NatsAre.nil⟩ (fun i s5 s6 J e => ?_) (fun i s5 t hi J hi5 => ?_) (fun s5 J => ?_)
  · obtain ⟨j1, j2, ws, j3, j4⟩ := J
    exact ⟨j1.kp e (by omega), j2.news e (fun b hb => hb ▸ hit), ws, j3.kp e (by omega), j4⟩
  · obtain ⟨j1, j2, ws, j3, j4⟩ := J
    refine wpAny_assign_Name ?_
    refine st_local [] j1 (by simp) (fun s6 e6 l6 => ?_) rfl (hk C) (hx C)
    refine wpAny_pure ?_
    rw [if_pos rfl]
    have k6 := j2.news e6 (fun b hb => hb ▸ hCs)
    refine wpAny_mono (helt C i t s6 hi k6 l6 hCs) (fun y s7 h7 => ?_) fun _ _ h => h
    obtain ⟨⟨t', rfl⟩, e7⟩ := h7
    have hws : ws.length ≤ 1000 := by rw [j4.length]; simp; omega
    refine call_append ((j3.kp e6 (by omega)).kp e7 id) hws fun s8 e8 d8 => ?_
    refine ⟨⟨(vars_sub (l6.kp e7 id) (by simp)).kp e8 (by omega), (k6.trans e7).news e8 (fun b hb => hb ▸ hDs), _, d8, ?_⟩, ((hi5.kp e6 (by omega)).kp e7 id).kp e8 (by omega)⟩
    rw [List.range_succ, List.map_append]
    exact j4.snoc (v i) t'
  · obtain ⟨j1, j2, ws, j3, j4⟩ := J
    exact ⟨⟨_, rfl⟩, j1, fun s6 e6 => hQ s6 D ws (j2.news e6 fun b hb => hb ▸ hCs) hDs (j3.kp e6 (by omega)) j4⟩

theorem comp_nats_list {elt iter : Expr} {x : Str} {px : Pos} {ifs : List Expr} {scope : Scope} {pos : Pos} {cl : List (Str × Addr)} {l : Nat} {vs : List Value} {ns : List Nat} {Q : Value → Shared → Prop} (p : Nat → Bool) (hn : ns.length ≤ 900) (hh : A.handled = none)
    (hclos : closureFor scope env = pure cl) (hkind : scope.kind = .function) (hnames : ∀ x ∈ scope.names, x.2 = .local → scope.names.lookup x.1 = some .local) (hcell : ∀ y ∈ scope.names, y.2 ≠ .cell)
    (hs : ∀ x, foldedSetIterable iter env x = pure x) (hk : ∀ C, (compEnvC scope cl C env).scope.kind = .function) (hx : ∀ C, (compEnvC scope cl C env).kindOf x = some .local)
    (hl : At s l (ListO vs)) (hv : NatsAre vs ns)
    (hiter : ∀ Q : Value → Shared → Prop, Q (.ref l) s → wpAny (model prog w) A (eval iter env) Q noE s)
    (htest : ∀ C y t s1, y ∈ ns → Kp No No s s1 → At s1 C (VarsO [(x, .int (y : Nat) t)]) → Above s C → tests (model prog w) A (compEnvC scope cl C env) ifs (fun ok s2 => ok = p y ∧ Kp No No s1 s2) s1)
    (helt : ∀ C y t s1, y ∈ ns → At s1 C (VarsO [(x, .int (y : Nat) t)]) → wpAny (model prog w) A (eval elt (compEnvC scope cl C env)) (fun r s2 => r = .int (y : Nat) t ∧ s2 = s1) noE s1)
    (hQ : ∀ s' D ws, Kp No No s s' → Above s D → At s' D (ListO ws) → NatsAre ws (ns.filter p) → Q (.ref D) s') :
    wpAny (model prog w) A (eval (.ListComp elt [⟨.Name x px, iter, ifs, 0⟩] scope pos) env) Q E s := by
  refine comp_open hclos hkind hnames hcell rfl hs (hiter _ ?_)
  refine iter_list hl fun s2 it e2 hit i2 => ?_
  intro s4 D C e4 hD hDC d4 c4
  have hitD := i2.above hD
  have hDs : Above s D := hD.kp e2
  have hits : Above s it := above_le (Nat.le_of_eq hit.symm)
  have hCs : Above s C := fun b o g => Nat.lt_trans (hDs b o g) hDC
  refine comp_list hh (i2.kp e4 id) (fun i s1 => NatJ s D C it ((ns.take i).filter p) s1) ⟨c4, e2.trans e4, [], d4, by simpa using NatsAre.nil⟩ (fun i s5 s6 J e => ?_) (fun i s5 J => hl.kp J.kp id) (fun i s5 y hi hy J hi5 => ?_) (fun s5 J => ?_)
  · obtain ⟨j1, j2, ws, j3, j4⟩ := J
    exact ⟨j1.kp e (by omega), j2.news e (fun b hb => hb ▸ hits), ws, j3.kp e (by omega), j4⟩
  · obtain ⟨j1, j2, ws, j3, j4⟩ := J
    have hin : i < ns.length := by rw [← hv.length]; exact hi
    obtain ⟨t, ht⟩ := hv.get (List.getElem?_eq_getElem hin)
    rw [ht] at hy; cases hy
    refine owned_name ?_
    refine wpAny_assign_Name ?_
    refine st_local [] j1 (by simp) (fun s6 e6 l6 => ?_) rfl (hk C) (hx C)
    have k6 := j2.news e6 (fun b hb => hb ▸ hCs)
    have htake : (ns.take (i + 1)).filter p = (ns.take i).filter p ++ (if p ns[i] then [ns[i]] else []) := by
      rw [List.take_succ_eq_append_getElem hin, List.filter_append]
      congr 1
      simp [List.filter_cons]
    refine wpAny_mono (htest C ns[i] t s6 (List.getElem_mem hin) k6 l6 hCs) (fun ok s7 h7 => ?_) fun _ _ h => h
    obtain ⟨rfl, e7⟩ := h7
    have l7 := l6.kp e7 id
    have d7 := (j3.kp e6 (by omega)).kp e7 id
    have hi7 := (hi5.kp e6 (by omega)).kp e7 id
    by_cases hp : p ns[i] = true
    · rw [if_pos hp]
      rw [if_pos hp] at htake
      refine wpAny_mono (helt C ns[i] t s7 (List.getElem_mem hin) l7) (fun r s8 h8 => ?_) fun _ _ h => h
      obtain ⟨rfl, rfl⟩ := h8
      have hws : ws.length ≤ 1000 := by
        rw [j4.length]
        have h1 := List.length_filter_le p (ns.take i)
        have h2 := List.length_take_le i ns
        omega
      refine call_append d7 hws fun s9 e9 d9 => ?_
      refine ⟨⟨(vars_sub l7 (by simp)).kp e9 (by omega), (k6.trans e7).news e9 (fun b hb => hb ▸ hDs), _, d9, ?_⟩, hi7.kp e9 (by omega)⟩
      rw [htake]
      exact j4.snoc ns[i] t
    · rw [if_neg hp]
      rw [if_neg hp] at htake
      exact ⟨⟨vars_sub l7 (by simp), k6.trans e7, ws, d7, by rw [htake, List.append_nil]; exact j4⟩, hi7⟩
  · obtain ⟨j1, j2, ws, j3, j4⟩ := J
    rw [show vs.length = ns.length from hv.length, List.take_length] at j4
    exact ⟨⟨_, rfl⟩, j1, fun s6 e6 => hQ s6 D ws (j2.news e6 fun b hb => hb ▸ hCs) hDs (j3.kp e6 (by omega)) j4⟩
end
end Mine
end CompNPart

section CompGPart
open PySem PySem.W PyProof.Rows PySem.Calls
namespace Mine

abbrev Out (s : Shared) (b : Nat) : Prop := s.heap.get? b = none
theorem out_of_above {s : Shared} {b : Nat} (h : Above s b) : Out s b := by
  show s.heap.get? b = none
  cases e : s.heap.get? b with
  | none => rfl
  | some o => exact absurd (h b o e) (Nat.lt_irrefl _)
theorem Out.kp {s s' : Shared} {b : Nat} {D} (h : Out s' b) (k : Kp No D s s') : Out s b := by
  show s.heap.get? b = none
  cases e : s.heap.get? b with
  | none => rfl
  | some o => have := k.keep b o id e; rw [show s'.heap.get? b = none from h] at this; cases this
theorem Kp.newsG {P D : Nat → Prop} {s0 s1 s2 : Shared} (x : Kp No No s0 s1) (y : Kp P D s1 s2) (h : ∀ b, P b → Out s0 b) (hd : ∀ i, D i → s0.gens.size ≤ i) : Kp No No s0 s2 :=
  ⟨fun b o _ g => y.keep b o (fun hp => by have := h b hp; rw [show s0.heap.get? b = none from this] at g; cases g) (x.keep b o id g), Nat.le_trans x.gsz y.gsz,
    fun i v _ e => y.gkeep i v (fun hi => by have := hd i hi; have := (Array.getElem?_eq_some_iff.mp e).1; omega) (x.gkeep i v id e), y.bare ∘ x.bare, y.drawn.trans x.drawn, y.os.trans x.os⟩

/-- a list of lists of ints, none at N -/
def Rows (s : Shared) (N : Nat → Prop) (ws : List Value) (rows : List (List Nat)) : Prop :=
  ws.length = rows.length ∧ ∀ (i : Nat) (h : i < rows.length), ∃ O : Nat, ws[i]? = some (.ref O) ∧ At s O (NatsO rows[i]) ∧ ¬ N O

theorem Rows.kp {s s' : Shared} {N N' P D : Nat → Prop} {ws rows} (x : Rows s N ws rows) (e : Kp P D s s') (hp : ∀ b, P b → N b) (hn : ∀ b, Live s b → N' b → N b) : Rows s' N' ws rows :=
  ⟨x.1, fun i h => let ⟨O, h1, h2, h3⟩ := x.2 i h; ⟨O, h1, h2.kp e fun hb => h3 (hp _ hb), fun hb => h3 (hn _ h2.live hb)⟩⟩
theorem Rows.snoc {s : Shared} {N : Nat → Prop} {ws rows} (x : Rows s N ws rows) {O : Nat} {r : List Nat} (h : At s O (NatsO r)) (hn : ¬ N O) : Rows s N (ws ++ [.ref O]) (rows ++ [r]) := by
  refine ⟨by simp [x.1], fun i hi => ?_⟩
  rcases Nat.lt_or_ge i rows.length with h' | h'
  · obtain ⟨O', h1, h2, h3⟩ := x.2 i h'
    refine ⟨O', ?_, by rw [List.getElem_append_left h']; exact h2, h3⟩
    rw [List.getElem?_append_left (by rw [x.1]; exact h')]; exact h1
  · have : i = rows.length := by simp at hi; omega
    subst this
    refine ⟨O, ?_, by rw [List.getElem_append_right (Nat.le_refl _)]; simpa using h, hn⟩
    rw [← x.1]; simp

structure RowJ (s0 : Shared) (D C G g : Nat) (R : Nat → Prop) (out : List (List Nat)) (V U : Nat → Prop) (s1 : Shared) : Prop where
  vars : At s1 C (VarsO [])
  kp : Kp No No s0 s1
  out : ∃ ws, At s1 D (ListO ws) ∧ Rows s1 (fun b => V b ∨ b = D ∨ b = C ∨ b = G) ws out
  v : ∀ b, V b → Out s0 b ∧ b ≠ D ∧ b ≠ C
  u : ∀ i, U i → s0.gens.size ≤ i

section
variable {prog : Program} {w : World} {A : Around} {E : Value → Shared → Prop} {s : Shared} {env : Env}

/-- [list(layer) for layer in a generator of layers] -/
theorem comp_front {iter elt : Expr} {x : Str} {px : Pos} {scope : Scope} {pos : Pos} {cl : List (Str × Addr)} {d : Nat} {R : Nat → Prop} {xs : List (List Nat)} {Q : Value → Shared → Prop} (hA : Fit d A) (hn : xs.length ≤ 900) (h7 : ∀ l ∈ xs, l.length ≤ 900) (B : Bs w s.heap) (hR : ∀ b, R b → Live s b)
    (hclos : closureFor scope env = pure cl) (hkind : scope.kind = .function) (hnames : ∀ x ∈ scope.names, x.2 = .local → scope.names.lookup x.1 = some .local) (hcell : ∀ y ∈ scope.names, y.2 ≠ .cell)
    (hs : ∀ x, foldedSetIterable iter env x = pure x) (hk : ∀ C, (compEnvC scope cl C env).scope.kind = .function) (hx : ∀ C, (compEnvC scope cl C env).kindOf x = some .local)
    (hiter : ∀ Q : Value → Shared → Prop, (∀ s' G g V, Kp No No s s' → Above s G → s.gens.size ≤ g → (∀ b, V b → Above s b) → GenAt prog w d itemL xs s' G g R V No → Q (.ref G) s') → wpAny (model prog w) A (eval iter env) Q noE s)
    (helt : ∀ C O s1 (Q : Value → Shared → Prop) r, At s1 C (VarsO [(x, .ref O)]) → At s1 O (NatsO r) → r.length ≤ 900 → Bs w s1.heap → (∀ s2 D', Kp No No s1 s2 → D' = s1.heap.objs.size → At s2 D' (NatsO r) → Q (.ref D') s2) → wpAny (model prog w) A (eval elt (compEnvC scope cl C env)) Q noE s1)
    (hQ : ∀ s' D ws, Kp No No s s' → Above s D → At s' D (ListO ws) → Rows s' (fun b => b = D) ws xs → Q (.ref D) s') :
    wpAny (model prog w) A (eval (.ListComp elt [⟨.Name x px, iter, [], 0⟩] scope pos) env) Q E s := by
  refine comp_open hclos hkind hnames hcell rfl hs (hiter _ fun s2 G g V e2 hG hg hV hga => ?_)
  refine pyIter_gen hga.gen ?_
  intro s4 D C e4 hD hDC d4 c4
  have hGD := hga.gen.above hD
  have hDs : Above s D := hD.kp e2
  have hCs : Above s C := fun b o g => Nat.lt_trans (hDs b o g) hDC
  have hga4 : GenAt prog w d itemL xs s4 G g R V No := hga.kp e4 (fun _ h => h.elim) (fun _ h => h.elim)
  have B4 : Bs w s4.heap := B.kp (e2.trans e4) (fun _ h => h.elim)
  have h88 : ∀ {v : Nat}, Above s v → 88 ≤ v := fun h => by have := h 87 _ (B.K 87 _ rfl); omega
  have hVD : ∀ b, V b → b < D := fun b hb => by
    obtain ⟨o, e⟩ := hga.vl b hb
    exact hD b o e
  have hRD : ∀ b, R b → b < D ∧ b < C := fun b hb => by
    obtain ⟨o, e⟩ := hR b hb
    have := hDs b o e; omega
  refine comp_gen hA hga4 B4 (fun x v V' s1 s2 s3 s4 h e1 e2 => itemL_heap v V' s1 s2 s3 s4 h e1 e2) (fun i V U s1 => RowJ s D C G g R (xs.take i) V U s1) ?_ ?_ ?_
  · exact ⟨c4, e2.trans e4, ⟨[], d4, by simp [Rows]⟩, fun b hb => ⟨out_of_above (hV b hb), by have := hVD b hb; omega, by have := hVD b hb; omega⟩, fun i h => h.elim⟩
  · intro i V1 U1 s5 y v s6 V2 U2 hy J e6 hV2 hU2 hit hg6 B6
    obtain ⟨j1, j2, ⟨ws, j3, j4⟩, j5, j6⟩ := J
    obtain ⟨O, rfl, hO, hVO, hON⟩ := hit
    have hyl : y ∈ xs := List.mem_of_getElem? hy
    have hilt : i < xs.length := (List.getElem?_eq_some_iff.mp hy).1
    have hyi : xs[i] = y := by rw [List.getElem?_eq_getElem hilt] at hy; exact Option.some.inj hy
    have k6 : Kp No No s s6 := j2.newsG e6 (fun b hb => (j5 b hb).1) (fun i hi => by
      rcases hi with h | h
      · exact j6 i h
      · omega)
    have c6 := j1.kp e6 (fun h => (j5 _ h).2.2 rfl)
    have d6 := j3.kp e6 (fun h => (j5 _ h).2.1 rfl)
    have hV2' : ∀ b, V2 b → Out s b ∧ b ≠ D ∧ b ≠ C := fun b hb => by
      rcases hV2 b hb with h | h
      · exact j5 b h
      · exact ⟨Out.kp h.1 j2, Ne.symm (h.ne j3), Ne.symm (h.ne j1)⟩
    have hU2' : ∀ i, U2 i → s.gens.size ≤ i := fun i hi => by
      rcases hU2 i hi with h | h
      · exact j6 i h
      · have := j2.gsz; omega
    have rows6 : Rows s6 (fun b => V2 b ∨ b = D ∨ b = C ∨ b = G) ws (xs.take i) := by
      refine j4.kp e6 (fun b hb => .inl hb) fun b ⟨o, hb⟩ h => ?_
      rcases h with h | h
      · rcases hV2 b h with h' | h'
        · exact .inl h'
        · rw [h'.1] at hb; cases hb
      · exact .inr h
    refine wpAny_assign_Name ?_
    refine st_local [] c6 (by simp) (fun s7 e7 l7 => ?_) rfl (hk C) (hx C)
    refine wpAny_pure ?_
    rw [if_pos rfl]
    have hOC : O ≠ C := fun h => by
      have := hON.ne j1; omega
    have hCG : C ≠ G := by omega
    have hga7 : GenAt prog w d itemL (xs.drop (i + 1)) s7 G g R V2 U2 := hg6.kp e7 (fun b hb => by
      subst hb
      exact ⟨by omega, fun h => by have := (hRD _ h).2; omega, fun h => (hV2' _ h).2.2 rfl⟩) (fun _ h => h.elim)
    have B7 : Bs w s7.heap := B6.kp e7 (fun b hb => hb ▸ h88 hCs)
    have k7 := k6.newsG e7 (fun b hb => hb ▸ out_of_above hCs) (fun _ h => h.elim)
    refine helt C O s7 _ y l7 (hO.kp e7 hOC) (h7 y hyl) B7 fun s8 D' e8 hD' d8 => ?_
    have hws : ws.length ≤ 1000 := by rw [j4.1]; have := List.length_take_le i xs; omega
    have ltD7 := (d6.kp e7 (by omega)).lt
    refine call_append ((d6.kp e7 (by omega)).kp e8 id) hws fun s9 e9 d9 => ?_
    have hga9 := (hga7.kp e8 (fun _ h => h.elim) (fun _ h => h.elim)).kp e9 (fun b hb => by
      subst hb
      exact ⟨by omega, fun h => by have := (hRD _ h).1; omega, fun h => (hV2' _ h).2.1 rfl⟩) (fun _ h => h.elim)
    have hD'n : ¬ (V2 D' ∨ D' = D ∨ D' = C ∨ D' = G) := by
      have ltC := l7.lt; have ltG := hga7.gen.lt
      rintro (h | h | h | h)
      · have := (hga7.vl _ h).lt; omega
      · omega
      · omega
      · omega
    refine ⟨⟨(vars_sub (l7.kp e8 id) (by simp)).kp e9 (by omega), (k7.trans e8).newsG e9 (fun b hb => hb ▸ out_of_above hDs) (fun _ h => h.elim), ⟨_, d9, ?_⟩, hV2', hU2'⟩, hga9, (B7.kp e8 (fun _ h => h.elim)).kp e9 (fun b hb => hb ▸ h88 hDs)⟩
    rw [List.take_succ_eq_append_getElem hilt, hyi]
    refine Rows.snoc ?_ (d8.kp e9 (by omega)) hD'n
    have r7 : Rows s7 (fun b => V2 b ∨ b = D ∨ b = C ∨ b = G) ws (xs.take i) := rows6.kp e7 (fun b hb => .inr (.inr (.inl hb))) (fun _ _ h => h)
    exact (r7.kp e8 (fun _ h => h.elim) (fun _ _ h => h)).kp e9 (fun b hb => .inr (.inl hb)) (fun _ _ h => h)
  · intro s5 V1 U1 s6 J e6 B6
    obtain ⟨j1, j2, ⟨ws, j3, j4⟩, j5, j6⟩ := J
    rw [List.take_length] at j4
    have k6 : Kp No No s s6 := j2.newsG e6 (fun b hb => (j5 b hb).1) (fun i hi => by
      rcases hi with h | h
      · exact j6 i h
      · omega)
    have c6 := j1.kp e6 (fun h => (j5 _ h).2.2 rfl)
    have d6 := j3.kp e6 (fun h => (j5 _ h).2.1 rfl)
    have r6 : Rows s6 (fun b => b = D ∨ b = C) ws xs := j4.kp e6 (fun b hb => .inl hb) (fun b _ h => .inr (h.imp id fun h => .inl h))
    refine ⟨⟨_, rfl⟩, c6, fun s7 e7 => ?_⟩
    refine hQ s7 D ws (k6.newsG e7 (fun b hb => hb ▸ out_of_above hCs) (fun _ h => h.elim)) hDs (d6.kp e7 (by omega)) ?_
    exact r6.kp e7 (fun b hb => .inr hb) (fun b _ h => .inl h)
end
end Mine
end CompGPart

section CompLPart
open PySem PySem.W PyProof.Rows PySem.Calls
namespace Mine

structure LenJ (s0 : Shared) (D C : Nat) (n : Nat) (V U : Nat → Prop) (s1 : Shared) : Prop where
  vars : At s1 C (VarsO [])
  kp : Kp No No s0 s1
  out : ∃ ws, At s1 D (ListO ws) ∧ ws.length = n
  v : ∀ b, V b → Out s0 b ∧ b ≠ D ∧ b ≠ C
  u : ∀ i, U i → s0.gens.size ≤ i

section
variable {prog : Program} {w : World} {A : Around} {E : Value → Shared → Prop} {s : Shared} {env : Env}

/-- [layer for layer in a generator of layers] -/
theorem comp_len {iter elt : Expr} {x : Str} {px : Pos} {scope : Scope} {pos : Pos} {cl : List (Str × Addr)} {d : Nat} {xs : List (List Nat)} {Q : Value → Shared → Prop} (hA : Fit d A) (hn : xs.length ≤ 900) (B : Bs w s.heap)
    (hclos : closureFor scope env = pure cl) (hkind : scope.kind = .function) (hnames : ∀ x ∈ scope.names, x.2 = .local → scope.names.lookup x.1 = some .local) (hcell : ∀ y ∈ scope.names, y.2 ≠ .cell)
    (hs : ∀ x, foldedSetIterable iter env x = pure x) (hk : ∀ C, (compEnvC scope cl C env).scope.kind = .function) (hx : ∀ C, (compEnvC scope cl C env).kindOf x = some .local)
    (hiter : ∀ Q : Value → Shared → Prop, (∀ s' G g (V R : Nat → Prop), Kp No No s s' → Above s G → s.gens.size ≤ g → (∀ b, V b → Above s b) → (∀ b, R b → Live s' b) → GenAt prog w d itemL xs s' G g R V No → Q (.ref G) s') → wpAny (model prog w) A (eval iter env) Q noE s)
    (helt : ∀ C v s1 (Q : Value → Shared → Prop), At s1 C (VarsO [(x, v)]) → Q v s1 → wpAny (model prog w) A (eval elt (compEnvC scope cl C env)) Q noE s1)
    (hQ : ∀ s' D ws, Kp No No s s' → Above s D → At s' D (ListO ws) → ws.length = xs.length → Q (.ref D) s') :
    wpAny (model prog w) A (eval (.ListComp elt [⟨.Name x px, iter, [], 0⟩] scope pos) env) Q E s := by
  refine comp_open hclos hkind hnames hcell rfl hs (hiter _ fun s2 G g V R e2 hG hg hV hR hga => ?_)
  refine pyIter_gen hga.gen ?_
  intro s4 D C e4 hD hDC d4 c4
  have hGD := hga.gen.above hD
  have hDs : Above s D := hD.kp e2
  have hCs : Above s C := fun b o g => Nat.lt_trans (hDs b o g) hDC
  have hga4 : GenAt prog w d itemL xs s4 G g R V No := hga.kp e4 (fun _ h => h.elim) (fun _ h => h.elim)
  have B4 : Bs w s4.heap := B.kp (e2.trans e4) (fun _ h => h.elim)
  have h88 : ∀ {v : Nat}, Above s v → 88 ≤ v := fun h => by have := h 87 _ (B.K 87 _ rfl); omega
  have hVD : ∀ b, V b → b < D := fun b hb => by
    obtain ⟨o, e⟩ := hga.vl b hb
    exact hD b o e
  have hRD : ∀ b, R b → b < D ∧ b < C := fun b hb => by
    obtain ⟨o, e⟩ := hR b hb
    have := hD b o e; omega
  refine comp_gen hA hga4 B4 (fun x v V' s1 s2 s3 s4 h e1 e2 => itemL_heap v V' s1 s2 s3 s4 h e1 e2) (fun i V U s1 => LenJ s D C i V U s1) ?_ ?_ ?_
  · exact ⟨c4, e2.trans e4, ⟨[], d4, rfl⟩, fun b hb => ⟨out_of_above (hV b hb), by have := hVD b hb; omega, by have := hVD b hb; omega⟩, fun i h => h.elim⟩
  · intro i V1 U1 s5 y v s6 V2 U2 hy J e6 hV2 hU2 hit hg6 B6
    obtain ⟨j1, j2, ⟨ws, j3, j4⟩, j5, j6⟩ := J
    have hilt : i < xs.length := (List.getElem?_eq_some_iff.mp hy).1
    have k6 : Kp No No s s6 := j2.newsG e6 (fun b hb => (j5 b hb).1) (fun i hi => by
      rcases hi with h | h
      · exact j6 i h
      · omega)
    have c6 := j1.kp e6 (fun h => (j5 _ h).2.2 rfl)
    have d6 := j3.kp e6 (fun h => (j5 _ h).2.1 rfl)
    have hV2' : ∀ b, V2 b → Out s b ∧ b ≠ D ∧ b ≠ C := fun b hb => by
      rcases hV2 b hb with h | h
      · exact j5 b h
      · exact ⟨Out.kp h.1 j2, Ne.symm (h.ne j3), Ne.symm (h.ne j1)⟩
    have hU2' : ∀ i, U2 i → s.gens.size ≤ i := fun i hi => by
      rcases hU2 i hi with h | h
      · exact j6 i h
      · have := j2.gsz; omega
    refine wpAny_assign_Name ?_
    refine st_local [] c6 (by simp) (fun s7 e7 l7 => ?_) rfl (hk C) (hx C)
    refine wpAny_pure ?_
    rw [if_pos rfl]
    have hga7 : GenAt prog w d itemL (xs.drop (i + 1)) s7 G g R V2 U2 := hg6.kp e7 (fun b hb => by
      subst hb
      exact ⟨by omega, fun h => by have := (hRD _ h).2; omega, fun h => (hV2' _ h).2.2 rfl⟩) (fun _ h => h.elim)
    have B7 : Bs w s7.heap := B6.kp e7 (fun b hb => hb ▸ h88 hCs)
    have k7 := k6.newsG e7 (fun b hb => hb ▸ out_of_above hCs) (fun _ h => h.elim)
    refine helt C v s7 _ l7 ?_
    refine call_append (d6.kp e7 (by omega)) (by omega) fun s9 e9 d9 => ?_
    have hga9 := hga7.kp e9 (fun b hb => by
      subst hb
      exact ⟨by omega, fun h => by have := (hRD _ h).1; omega, fun h => (hV2' _ h).2.1 rfl⟩) (fun _ h => h.elim)
    exact ⟨⟨(vars_sub l7 (by simp)).kp e9 (by omega), k7.newsG e9 (fun b hb => hb ▸ out_of_above hDs) (fun _ h => h.elim), ⟨_, d9, by simp [j4]⟩, hV2', hU2'⟩, hga9, B7.kp e9 (fun b hb => hb ▸ h88 hDs)⟩
  · intro s5 V1 U1 s6 J e6 B6
    obtain ⟨j1, j2, ⟨ws, j3, j4⟩, j5, j6⟩ := J
    have k6 : Kp No No s s6 := j2.newsG e6 (fun b hb => (j5 b hb).1) (fun i hi => by
      rcases hi with h | h
      · exact j6 i h
      · omega)
    have c6 := j1.kp e6 (fun h => (j5 _ h).2.2 rfl)
    have d6 := j3.kp e6 (fun h => (j5 _ h).2.1 rfl)
    refine ⟨⟨_, rfl⟩, c6, fun s7 e7 => ?_⟩
    exact hQ s7 D ws (k6.newsG e7 (fun b hb => hb ▸ out_of_above hCs) (fun _ h => h.elim)) hDs (d6.kp e7 (by omega)) j4
end
end Mine
end CompLPart

section CompKPart
open PySem PySem.W PyProof.Rows PySem.Calls
namespace Mine

def kScope (y : Str) : Scope := { kind := .function, names := [(Str.ofString ".0", .local), (Str.ofString "k", .cell), (y, .free), (Str.ofString "items", .free)], isGenerator := false, isCoroutine := false, more := [] }

section
variable {prog : Program} {w : World} {A : Around} {E : Value → Shared → Prop} {s : Shared} {env : Env}

theorem comp_block_k {y : Str} {elt : Expr} {g : Comprehension} {pos : Pos} {cl : List (Str × Addr)} {it : Value} {R : Value → Nat → Result → Shared → Prop}
    (h : ∀ s4 D C, Kp No No s s4 → Above s D → D < C → At s4 D (ListO []) → At s4 C (VarsO []) → At s4 (C + 1) (CellO none) →
      codeAny (model prog w) A (.compStart (.ListComp elt [g] (kScope y) pos) 0 it (.ref D) (compEnvC (kScope y) ((Str.ofString "k", C + 1) :: cl) C env)) (R (.ref D) C) s4) :
    wpAny (model prog w) A (newList []) (fun acc s₃ => wpAny (model prog w) A (newFunctionEnv (kScope y) env.globals cl [] env.qual none .none (some env)) (fun cenv s₄ =>
        codeAny (model prog w) A (.compStart (.ListComp elt [g] (kScope y) pos) 0 it acc { cenv with scope := relabel (kScope y) env }) (R acc cenv.locals) s₄) E s₃) E s := by
  refine new_list (by simp) fun s3 D e3 hD d3 => ?_
  have hlt := d3.lt
  unfold newFunctionEnv
  refine wpAny_bind (wpAny_alloc ?_)
  show wpAny _ _ (forIn [_, _, _, _] _ _ >>= _) _ _ _
  refine wpAny_bind ?_
  rw [List.forIn_cons]
  refine wpAny_bind (wpAny_pure ?_)
  dsimp only
  rw [List.forIn_cons]
  refine wpAny_bind ?_
  rw [if_pos (show (NameKind.cell == NameKind.cell) = true from rfl)]
  refine wpAny_bind (wpAny_alloc (wpAny_pure ?_))
  dsimp only
  rw [List.forIn_cons]
  refine wpAny_bind (wpAny_pure ?_)
  dsimp only
  rw [List.forIn_cons]
  refine wpAny_bind (wpAny_pure ?_)
  show wpAny _ _ (pure _) _ _ _
  refine wpAny_pure ?_
  refine wpAny_bind (wpAny_pure (wpAny_pure ?_))
  generalize hs4 : ({ s3 with heap := (s3.heap.push { cls := .type (if (some env).isSome = true then "dict" else "frame"), data := .dict #[] }).push { cls := .type "cell", data := .cell none } } : Shared) = s4
  have e4 : Kp No No s3 s4 := by subst hs4; exact Kp.keeps (tk := s3.toks) fun b o hb => Heap.get?_push_of_some _ (Heap.get?_push_of_some _ hb)
  have c4 : At s4 s3.heap.objs.size (VarsO []) := by
    subst hs4
    exact ⟨_, Heap.get?_push_of_some _ (Heap.get?_push_size _ rfl), _, ⟨_, _, rfl, fun e he => by simp at he, fun name => rfl⟩, fun p hp => by simp at hp⟩
  have k4 : At s4 (s3.heap.objs.size + 1) (CellO none) := by
    subst hs4
    refine ⟨{ cls := .type "cell", data := .cell none }, ?_, rfl⟩
    have := Heap.get?_push_size (s3.heap.push { cls := .type (if (some env).isSome = true then "dict" else "frame"), data := .dict #[] }) (o := { cls := .type "cell", data := .cell none }) rfl
    rw [Heap.size_push] at this
    exact this
  have hsz : (s3.heap.push { cls := .type (if (some env).isSome = true then "dict" else "frame"), data := .dict #[] }).objs.size = s3.heap.objs.size + 1 := Heap.size_push ..
  rw [hsz]
  exact h s4 D s3.heap.objs.size (e3.trans e4) (above_le (Nat.le_of_eq hD.symm)) hlt (d3.kp e4 id) c4 k4

theorem comp_open_k {y : Str} {elt : Expr} {g : Comprehension} {pos : Pos} {cl : List (Str × Addr)} {Q : Value → Shared → Prop}
    (hclos : closureFor (kScope y) env = pure cl) (ha : g.is_async = 0) (hs : ∀ x, foldedSetIterable g.iter env x = pure x)
    (h : wpAny (model prog w) A (eval g.iter env) (fun x s₁ => wpAny (model prog w) A (pyIter x) (fun it s₂ => ∀ s4 D C, Kp No No s₂ s4 → Above s₂ D → D < C → At s4 D (ListO []) → At s4 C (VarsO []) → At s4 (C + 1) (CellO none) →
      codeAny (model prog w) A (.compStart (.ListComp elt [g] (kScope y) pos) 0 it (.ref D) (compEnvC (kScope y) ((Str.ofString "k", C + 1) :: cl) C env)) (fun r s5 => (∃ f, r = .ok f) ∧ At s5 C (VarsO []) ∧ ∀ s6, Kp (· = C) No s5 s6 → Q (.ref D) s6) s4) noE s₁) noE s) :
    wpAny (model prog w) A (eval (.ListComp elt [g] (kScope y) pos) env) Q E s := by
  rw [eval_ListComp]
  have ha' : firstAsync [g] = false := by
    obtain ⟨t, i, f, a⟩ := g
    subst ha; rfl
  rw [ha']
  obtain ⟨t, i, f, a⟩ := g
  refine wpAny_comprehension_free (cl := cl) rfl hs hclos rfl (by intro x hx hl; simp only [kScope, List.mem_cons, List.not_mem_nil, or_false] at hx; rcases hx with rfl | rfl | rfl | rfl <;> first | rfl | cases hl) ?_
  refine wpAny_mono h (fun x s1 h1 => wpAny_mono h1 (fun it s2 h2 => ?_) fun _ _ h => h.elim) fun _ _ h => h.elim
  refine comp_block_k (R := fun acc C => compPost (model prog w) A E none Q acc C) fun s4 D C e4 hD hDC d4 c4 k4 => ?_
  refine codeAny_mono (h2 s4 D C e4 hD hDC d4 c4 k4) fun r s5 h5 => ?_
  obtain ⟨⟨f, rfl⟩, h5, h6⟩ := h5
  obtain ⟨m, hm, _⟩ := vars_ns h5
  exact ⟨m, hm, fun h' hs => h6 _ (Kp.same hs)⟩
end
end Mine
end CompKPart

section CompRowsPart
open PySem PySem.W PyProof.Rows PySem.Calls
namespace Mine

noncomputable abbrev envLaw (P : Params) (L fa : Nat) (cd : Value) : Env := envOfC (Str.ofString "law") (fdOf P 87).scope L fa cd

theorem boot_range : bootBuiltins "range" = some (.type "range") := by decide +kernel
theorem boot_len : bootBuiltins "len" = some (.builtin "len") := by decide +kernel
theorem boot_min : bootBuiltins "min" = some (.builtin "min") := by decide +kernel

def inScope (y : Str) : Scope := { kind := .function, names := [(Str.ofString ".0", .local), (Str.ofString "item", .local), (y, .free), (Str.ofString "k", .free)], isGenerator := false, isCoroutine := false, more := [] }

abbrev rowsOf (av : Nat → Nat) (ns : List Nat) (n : Nat) : List (List Nat) := (List.range n).map fun k => ns.filter fun x => av x == k + 1

structure RowsJ (s0 : Shared) (D C it : Nat) (out : List (List Nat)) (s1 : Shared) : Prop where
  vars : At s1 C (VarsO [])
  cell : ∃ v, At s1 (C + 1) (CellO v)
  kp : Kp No No s0 s1
  out : ∃ ws, At s1 D (ListO ws) ∧ Rows s1 (fun b => b = D ∨ b = C ∨ b = C + 1 ∨ b = it) ws out

section
variable {prog : Program} {w : World} {A : Around} {E : Value → Shared → Prop} {s : Shared}

theorem comp_rows_ahead {p1 p2 p3 p4 p5 p6 p7 p8 p9 p10 p11 q1 q2 q3 q4 q5 : Pos} {L fa : Nat} {cd : Value} {I AV n many : Nat} {l : List (Str × Value)} {tn : Tok} {vs avs : List Value} {ns : List Nat} {av : Nat → Nat} {Q : Value → Shared → Prop} (hh : A.handled = none) (B : Bs w s.heap) (hn : n ≤ 900) (hlen : ns.length ≤ 900) (hmany : many ≤ 900)
    (hL : At s L (VarsO l)) (ml : (Str.ofString "longest", .int (n : Nat) tn) ∈ l) (hcI : At s (L + 4) (CellO (some (.ref I)))) (hcA : At s (L + 8) (CellO (some (.ref AV))))
    (hI : At s I (ListO vs)) (hv : NatsAre vs ns) (hA : At s AV (ListO avs)) (hav : NatsAre avs ((List.range many).map av)) (hlt : ∀ x ∈ ns, x < many)
    (hQ : ∀ s' D ws, Kp No No s s' → Above s D → At s' D (ListO ws) → Rows s' (fun b => b = D) ws (rowsOf av ns n) → Q (.ref D) s') :
    wpAny (model prog w) A (eval (.ListComp (.ListComp (.Name "item" p1) [⟨.Name "item" p2, .Name "items" p3, [.Compare (.Subscript (.Name "ahead" p4) (.Name "item" p5) p6) [.Eq] [.BinOp (.Name "k" p7) .Add (.Constant (.int 1) 0 p8) p9] p10], 0⟩] (inScope "ahead") p11)
      [⟨.Name "k" q1, .Call (.Name "range" q2) [.Name "longest" q3] [] q4, [], 0⟩] (kScope "ahead") q5) (envLaw w.params L fa cd)) Q E s := by
  have h88 : ∀ {v : Nat}, Above s v → 88 ≤ v := fun h => by have := h 87 _ (B.K 87 _ rfl); omega
  refine comp_open_k (cl := [(Str.ofString "items", L + 4), (Str.ofString "ahead", L + 8)]) rfl rfl (fun _ => rfl) ?_
  refine Call_ ?_
  refine ev_builtin B boot_range ?_
  refine PyProof.Rows.callWith_type1 ?_
  refine spliced_cons ?_
  refine ev_local hL ml ?_
  refine spliced_nil ?_
  refine iter_range (by omega) fun s2 it e2 hit i2 => ?_
  intro s4 D C e4 hD hDC d4 c4 k4
  have hitD := i2.above hD
  have hDs : Above s D := hD.kp e2
  have hCs : Above s C := fun b o g => Nat.lt_trans (hDs b o g) hDC
  have hC1s : Above s (C + 1) := fun b o g => Nat.lt_succ_of_lt (hCs b o g)
  refine comp_range hh (i2.kp e4 id) (fun i s1 => RowsJ s D C it ((List.range i).map fun k => ns.filter fun x => av x == k + 1) s1) ⟨c4, ⟨_, k4⟩, e2.trans e4, [], d4, by simp [Rows]⟩ (fun i s5 s6 J e => ?_) (fun i s5 t hi J hi5 => ?_) (fun s5 J => ?_)
  · obtain ⟨j1, ⟨v, j2⟩, j3, ws, j4, j5⟩ := J
    exact ⟨j1.kp e (by omega), ⟨v, j2.kp e (by omega)⟩, j3.news e (fun b hb => hb ▸ hit), ws, j4.kp e (by omega), j5.kp e (fun b hb => .inr (.inr (.inr hb))) (fun _ _ h => h)⟩
  · obtain ⟨j1, ⟨v, j2⟩, j3, ws, j4, j5⟩ := J
    refine wpAny_assign_Name ?_
    refine st_cell (c := C + 1) j2 fun s6 e6 k6 => ?_
    refine wpAny_pure ?_
    rw [if_pos rfl]
    have n6 := j3.news e6 (fun b hb => hb ▸ hC1s)
    have l6 := j1.kp e6 (by omega)
    have ltC := l6.lt; have ltK := k6.lt; have ltD := (j4.kp e6 (by omega)).lt; have ltit := (hi5.kp e6 (by omega)).lt
    refine comp_nats_list (cl := [(Str.ofString "k", C + 1), (Str.ofString "ahead", L + 8)]) (fun x => av x == i + 1) hlen hh rfl rfl (by decide) (by decide) (fun _ => rfl) (fun _ => rfl) (fun _ => rfl) (hI.kp n6 id) hv (fun Q hq => ev_cell (hcI.kp n6 id) hq) (fun C' y t' s7 hy e7 l7 hC' => ?_) (fun C' y t' s7 hy l7 => ev_local l7 (.head _) ⟨rfl, rfl⟩) (fun s8 D' ws' e8 hD' d8 hws' => ?_)
    · show wpAny _ _ (forIn [_] true _) _ _ s7
      rw [List.forIn_cons]
      refine wpAny_bind ?_
      rw [if_pos rfl]
      refine wpAny_bind ?_
      refine wpAny_isTrue_Compare1 ?_
      refine Subscript_ ?_
      have n7 := n6.trans e7
      refine ev_cell (hcA.kp n7 id) ?_
      refine ev_local l7 (.head _) ?_
      have hA7 := hA.kp n7 id
      refine tail_any (listO_typeIs hA7) slot_list_getitem.lookup ?_ (by with_unfolding_all rfl)
      have hym := hlt y hy
      obtain ⟨u, hu⟩ := hav.get (i := y) (k := av y) (by rw [List.getElem?_map, List.getElem?_range hym]; rfl)
      refine wpAny_getItem_list (listO_isList hA7) (by omega) (by omega) (x := .int (av y : Nat) u) (by simpa using hu) ?_
      refine wpAny_BinOp ?_
      refine ev_cell (k6.kp e7 id) ?_
      refine wpAny_Constant_int ?_
      refine add_int ?_
      refine PyProof.Rows.eq_int ?_
      refine wpAny_truthy_bool ?_
      refine wpAny_pure ?_
      show wpAny _ _ (pure _) _ _ _
      refine wpAny_pure ⟨?_, Kp.toks (tk := s7.toks + 1 + 1)⟩
      rw [Bool.eq_iff_iff]; simp; omega
    · have hws : ws.length ≤ 1000 := by rw [j5.1]; simp; omega
      refine call_append ((j4.kp e6 (by omega)).kp e8 id) hws fun s9 e9 d9 => ?_
      have hD'n : ¬ (D' = D ∨ D' = C ∨ D' = C + 1 ∨ D' = it) := by
        have a1 := l6.above hD'; have a2 := k6.above hD'; have a3 := (j4.kp e6 (by omega)).above hD'; have a4 := (hi5.kp e6 (by omega)).above hD'
        omega
      refine ⟨⟨(l6.kp e8 id).kp e9 (by omega), ⟨_, (k6.kp e8 id).kp e9 (by omega)⟩, (n6.trans e8).news e9 (fun b hb => hb ▸ hDs), _, d9, ?_⟩, ((hi5.kp e6 (by omega)).kp e8 id).kp e9 (by omega)⟩
      rw [List.range_succ, List.map_append]
      have d8' : At s8 D' (NatsO (ns.filter fun x => av x == i + 1)) := d8.imp fun o ho => ⟨ws', ho, hws'⟩
      refine Rows.snoc ?_ (d8'.kp e9 (by omega)) hD'n
      exact ((j5.kp e6 (fun b hb => .inr (.inr (.inl hb))) (fun _ _ h => h)).kp e8 (fun _ h => h.elim) (fun _ _ h => h)).kp e9 (fun b hb => .inl hb) (fun _ _ h => h)
  · obtain ⟨j1, ⟨v, j2⟩, j3, ws, j4, j5⟩ := J
    exact ⟨⟨_, rfl⟩, j1, fun s6 e6 => hQ s6 D ws (j3.news e6 fun b hb => hb ▸ hCs) hDs (j4.kp e6 (by omega)) (j5.kp e6 (fun b hb => .inr (.inl hb)) (fun _ _ h => .inl h))⟩

theorem comp_rows_behind {p1 p2 p3 p4 p5 p6 p7 p8 p9 p10 p11 q1 q2 q3 q4 q5 : Pos} {L fa : Nat} {cd : Value} {I AV n many : Nat} {l : List (Str × Value)} {tn : Tok} {vs avs : List Value} {ns : List Nat} {av : Nat → Nat} {Q : Value → Shared → Prop} (hh : A.handled = none) (B : Bs w s.heap) (hn : n ≤ 900) (hlen : ns.length ≤ 900) (hmany : many ≤ 900)
    (hL : At s L (VarsO l)) (ml : (Str.ofString "longest", .int (n : Nat) tn) ∈ l) (hcI : At s (L + 4) (CellO (some (.ref I)))) (hcA : At s (L + 7) (CellO (some (.ref AV))))
    (hI : At s I (ListO vs)) (hv : NatsAre vs ns) (hA : At s AV (ListO avs)) (hav : NatsAre avs ((List.range many).map av)) (hlt : ∀ x ∈ ns, x < many)
    (hQ : ∀ s' D ws, Kp No No s s' → Above s D → At s' D (ListO ws) → Rows s' (fun b => b = D) ws (rowsOf av ns n) → Q (.ref D) s') :
    wpAny (model prog w) A (eval (.ListComp (.ListComp (.Name "item" p1) [⟨.Name "item" p2, .Name "items" p3, [.Compare (.Subscript (.Name "behind" p4) (.Name "item" p5) p6) [.Eq] [.BinOp (.Name "k" p7) .Add (.Constant (.int 1) 0 p8) p9] p10], 0⟩] (inScope "behind") p11)
      [⟨.Name "k" q1, .Call (.Name "range" q2) [.Name "longest" q3] [] q4, [], 0⟩] (kScope "behind") q5) (envLaw w.params L fa cd)) Q E s := by
  have h88 : ∀ {v : Nat}, Above s v → 88 ≤ v := fun h => by have := h 87 _ (B.K 87 _ rfl); omega
  refine comp_open_k (cl := [(Str.ofString "items", L + 4), (Str.ofString "behind", L + 7)]) rfl rfl (fun _ => rfl) ?_
  refine Call_ ?_
  refine ev_builtin B boot_range ?_
  refine PyProof.Rows.callWith_type1 ?_
  refine spliced_cons ?_
  refine ev_local hL ml ?_
  refine spliced_nil ?_
  refine iter_range (by omega) fun s2 it e2 hit i2 => ?_
  intro s4 D C e4 hD hDC d4 c4 k4
  have hitD := i2.above hD
  have hDs : Above s D := hD.kp e2
  have hCs : Above s C := fun b o g => Nat.lt_trans (hDs b o g) hDC
  have hC1s : Above s (C + 1) := fun b o g => Nat.lt_succ_of_lt (hCs b o g)
  refine comp_range hh (i2.kp e4 id) (fun i s1 => RowsJ s D C it ((List.range i).map fun k => ns.filter fun x => av x == k + 1) s1) ⟨c4, ⟨_, k4⟩, e2.trans e4, [], d4, by simp [Rows]⟩ (fun i s5 s6 J e => ?_) (fun i s5 t hi J hi5 => ?_) (fun s5 J => ?_)
  · obtain ⟨j1, ⟨v, j2⟩, j3, ws, j4, j5⟩ := J
    exact ⟨j1.kp e (by omega), ⟨v, j2.kp e (by omega)⟩, j3.news e (fun b hb => hb ▸ hit), ws, j4.kp e (by omega), j5.kp e (fun b hb => .inr (.inr (.inr hb))) (fun _ _ h => h)⟩
  · obtain ⟨j1, ⟨v, j2⟩, j3, ws, j4, j5⟩ := J
    refine wpAny_assign_Name ?_
    refine st_cell (c := C + 1) j2 fun s6 e6 k6 => ?_
    refine wpAny_pure ?_
    rw [if_pos rfl]
    have n6 := j3.news e6 (fun b hb => hb ▸ hC1s)
    have l6 := j1.kp e6 (by omega)
    have ltC := l6.lt; have ltK := k6.lt; have ltD := (j4.kp e6 (by omega)).lt; have ltit := (hi5.kp e6 (by omega)).lt
    refine comp_nats_list (cl := [(Str.ofString "k", C + 1), (Str.ofString "behind", L + 7)]) (fun x => av x == i + 1) hlen hh rfl rfl (by decide) (by decide) (fun _ => rfl) (fun _ => rfl) (fun _ => rfl) (hI.kp n6 id) hv (fun Q hq => ev_cell (hcI.kp n6 id) hq) (fun C' y t' s7 hy e7 l7 hC' => ?_) (fun C' y t' s7 hy l7 => ev_local l7 (.head _) ⟨rfl, rfl⟩) (fun s8 D' ws' e8 hD' d8 hws' => ?_)
    · show wpAny _ _ (forIn [_] true _) _ _ s7
      rw [List.forIn_cons]
      refine wpAny_bind ?_
      rw [if_pos rfl]
      refine wpAny_bind ?_
      refine wpAny_isTrue_Compare1 ?_
      refine Subscript_ ?_
      have n7 := n6.trans e7
      refine ev_cell (hcA.kp n7 id) ?_
      refine ev_local l7 (.head _) ?_
      have hA7 := hA.kp n7 id
      refine tail_any (listO_typeIs hA7) slot_list_getitem.lookup ?_ (by with_unfolding_all rfl)
      have hym := hlt y hy
      obtain ⟨u, hu⟩ := hav.get (i := y) (k := av y) (by rw [List.getElem?_map, List.getElem?_range hym]; rfl)
      refine wpAny_getItem_list (listO_isList hA7) (by omega) (by omega) (x := .int (av y : Nat) u) (by simpa using hu) ?_
      refine wpAny_BinOp ?_
      refine ev_cell (k6.kp e7 id) ?_
      refine wpAny_Constant_int ?_
      refine add_int ?_
      refine PyProof.Rows.eq_int ?_
      refine wpAny_truthy_bool ?_
      refine wpAny_pure ?_
      show wpAny _ _ (pure _) _ _ _
      refine wpAny_pure ⟨?_, Kp.toks (tk := s7.toks + 1 + 1)⟩
      rw [Bool.eq_iff_iff]; simp; omega
    · have hws : ws.length ≤ 1000 := by rw [j5.1]; simp; omega
      refine call_append ((j4.kp e6 (by omega)).kp e8 id) hws fun s9 e9 d9 => ?_
      have hD'n : ¬ (D' = D ∨ D' = C ∨ D' = C + 1 ∨ D' = it) := by
        have a1 := l6.above hD'; have a2 := k6.above hD'; have a3 := (j4.kp e6 (by omega)).above hD'; have a4 := (hi5.kp e6 (by omega)).above hD'
        omega
      refine ⟨⟨(l6.kp e8 id).kp e9 (by omega), ⟨_, (k6.kp e8 id).kp e9 (by omega)⟩, (n6.trans e8).news e9 (fun b hb => hb ▸ hDs), _, d9, ?_⟩, ((hi5.kp e6 (by omega)).kp e8 id).kp e9 (by omega)⟩
      rw [List.range_succ, List.map_append]
      have d8' : At s8 D' (NatsO (ns.filter fun x => av x == i + 1)) := d8.imp fun o ho => ⟨ws', ho, hws'⟩
      refine Rows.snoc ?_ (d8'.kp e9 (by omega)) hD'n
      exact ((j5.kp e6 (fun b hb => .inr (.inr (.inl hb))) (fun _ _ h => h)).kp e8 (fun _ h => h.elim) (fun _ _ h => h)).kp e9 (fun b hb => .inl hb) (fun _ _ h => h)
  · obtain ⟨j1, ⟨v, j2⟩, j3, ws, j4, j5⟩ := J
    exact ⟨⟨_, rfl⟩, j1, fun s6 e6 => hQ s6 D ws (j3.news e6 fun b hb => hb ▸ hCs) hDs (j4.kp e6 (by omega)) (j5.kp e6 (fun b hb => .inr (.inl hb)) (fun _ _ h => .inl h))⟩
end
end Mine
end CompRowsPart

section CompFPart
open PySem PySem.W PyProof.Rows PySem.Calls
namespace Mine

abbrev twoGens (elt t1 i1 t2 i2 : Expr) (scope : Scope) (pos : Pos) : Expr := .ListComp elt [⟨t1, i1, [], 0⟩, ⟨t2, i2, [], 0⟩] scope pos

theorem compTurn_two0 (elt t1 i1 t2 i2 : Expr) (scope : Scope) (pos : Pos) (it acc : Value) (env : Env) :
    compTurn (twoGens elt t1 i1 t2 i2 scope pos) 0 it acc env = (standAt i1.pos >>= fun _ => pyNext it >>= fun r => match r with
      | none => pure (.done .next)
      | some v => letOwnedTupleGo t1 it v >>= fun _ => assign t1 env v >>= fun _ => eval i2 env >>= fun x => standAt i2.pos >>= fun _ => foldedSetIterable i2 env x >>= fun x =>
          holding [x] (pyIter x) >>= fun it2 => runOwn (.compStart (twoGens elt t1 i1 t2 i2 scope pos) 1 it2 acc env) env >>= fun _ => again (.compLoop (twoGens elt t1 i1 t2 i2 scope pos) 0 it acc env)) := by rfl
theorem compTurn_two1 (elt t1 i1 t2 i2 : Expr) (scope : Scope) (pos : Pos) (it acc : Value) (env : Env) :
    compTurn (twoGens elt t1 i1 t2 i2 scope pos) 1 it acc env = (standAt i2.pos >>= fun _ => pyNext it >>= fun r => match r with
      | none => pure (.done .next)
      | some v => letOwnedTupleGo t2 it v >>= fun _ => assign t2 env v >>= fun _ => (eval elt env >>= fun x => call (.builtin "list.append") [acc, x] >>= fun _ => pure ()) >>= fun _ =>
          again (.compLoop (twoGens elt t1 i1 t2 i2 scope pos) 1 it acc env)) := by rfl

section
variable {prog : Program} {w : World} {A : Around} {E : Value → Shared → Prop} {s : Shared} {env : Env}

theorem start_two1 {elt t1 i1 t2 i2 : Expr} {scope : Scope} {pos : Pos} {it acc : Value} {R : Result → Shared → Prop} (h0 : codeAny (model prog w) A (.compLoop (twoGens elt t1 i1 t2 i2 scope pos) 1 it acc env) R s)
    (h : wpAny (model prog w) A (pyIter it) (fun it' s' => codeAny (model prog w) A (.compLoop (twoGens elt t1 i1 t2 i2 scope pos) 1 it' acc env) R s') noE s) :
    codeAny (model prog w) A (.compStart (twoGens elt t1 i1 t2 i2 scope pos) 1 it acc env) R s := by
  refine codeAny_of_tree ?_
  show wpAny _ _ ((compStart (twoGens elt t1 i1 t2 i2 scope pos) 1 it acc env).onRaise (fun x => do noteFrame x env; standAt theWindowsPlace)) _ _ s
  refine wpAny_notedAt ?_
  unfold compStart
  show wpAny _ _ (ask >>= _) _ _ s
  refine wpAny_bind (wpAny_askSetting (wpAny_ite ?_))
  split
  · first
      | exact wpAny_bind (wpAny_pure (wpAny_pure (And.intro rfl h0)))
      | exact wpAny_pure (And.intro rfl h0)
  · refine wpAny_bind (wpAny_rule ?_)
    show wpAny _ _ (standAt i2.pos >>= _) _ _ s
    exact wpAny_bind (wpAny_standAt (wpAny_bind (wpAny_mono h (fun it' s' h' => wpAny_pure (And.intro rfl h')) fun _ _ x => x.elim)))

theorem inner_two {elt : Expr} {t1 i1 i2 : Expr} {x : Str} {px : Pos} {scope : Scope} {pos : Pos} {l it : Nat} {vs : List Value} {acc : Value} {R : Result → Shared → Prop} (hh : A.handled = none) (hi : At s it (IterO l 0)) (J : Nat → Shared → Prop)
    (h0 : J 0 s) (keep : ∀ i s1 s2, J i s1 → Kp (· = it) No s1 s2 → J i s2) (lst : ∀ i s1, J i s1 → At s1 l (ListO vs))
    (step : ∀ i s1 v, vs[i]? = some v → J i s1 → At s1 it (IterO l (i + 1)) →
      wpAny (model prog w) A (assign (.Name x px) env v) (fun _ s2 => wpAny (model prog w) A (eval elt env) (fun y s4 => wpAny (model prog w) A (call (.builtin "list.append") [acc, y]) (fun _ s5 => J (i + 1) s5 ∧ At s5 it (IterO l (i + 1))) noE s4) noE s2) noE s1)
    (fin : ∀ s1, J vs.length s1 → R (.ok .next) s1) :
    codeAny (model prog w) A (.compStart (twoGens elt t1 i1 (.Name x px) i2 scope pos) 1 (.ref it) acc env) R s := by
  have go : codeAny (model prog w) A (.compLoop (twoGens elt t1 i1 (.Name x px) i2 scope pos) 1 (.ref it) acc env) R s := by
    refine codeAny_loop rfl (fun n s' => ∃ i, i + n = vs.length ∧ J i s' ∧ At s' it (IterO l i)) (fun n s' ⟨i, hn, hJ, hi⟩ => ?_) vs.length ⟨0, by omega, h0, hi⟩
    show wpAny _ A ((compTurn (twoGens elt t1 i1 (.Name x px) i2 scope pos) 1 (.ref it) acc env).onRaise (fun x => do noteFrame x env; theTreesLotGoes x)) _ _ s'
    refine wpAny_noted ?_
    rw [compTurn_two1]
    have hlt := lst i s' hJ
    refine wpAny_bind (wpAny_standAt (wpAny_bind ?_))
    cases hv : vs[i]? with
    | none =>
      refine next_end hh hi hlt hv fun s2 e2 => ?_
      have : i = vs.length := by have := List.getElem?_eq_none_iff.mp hv; omega
      subst this
      exact wpAny_pure (fin s2 (keep _ s' s2 hJ e2))
    | some v =>
      have hiv : i < vs.length := (List.getElem?_eq_some_iff.mp hv).1
      refine next_item hi hlt hv fun s2 e2 i2 => ?_
      refine wpAny_bind (owned_name ?_)
      refine wpAny_bind (wpAny_mono (step i s2 v hv (keep i s' s2 hJ e2) i2) (fun _ s4 h4 => ?_) fun _ _ h => h.elim)
      refine wpAny_bind (wpAny_bind (wpAny_mono h4 (fun y s5 h5 => wpAny_bind (wpAny_mono h5 (fun _ s6 h6 => wpAny_pure ?_) fun _ _ h => h.elim)) fun _ _ h => h.elim))
      exact wpAny_pure ⟨rfl, n - 1, by omega, i + 1, by omega, h6⟩
  exact start_two1 go (wpAny_pyIter_listiter hi go)

/-- [item for layer in rows for item in layer] -/
theorem comp_flat {i1 : Expr} {x y : Str} {px py pe pl : Pos} {scope : Scope} {pos : Pos} {F : Nat} {ws : List Value} {rows : List (List Nat)} {N : Nat → Prop} {Q : Value → Shared → Prop} (hh : A.handled = none) (hn : rows.flatten.length ≤ 900)
    (hclos : closureFor scope env = pure []) (hkind : scope.kind = .function) (hnames : ∀ x ∈ scope.names, x.2 = .local → scope.names.lookup x.1 = some .local) (hcell : ∀ y ∈ scope.names, y.2 ≠ .cell)
    (hs : ∀ x, foldedSetIterable i1 env x = pure x) (hk : ∀ C, (compEnvC scope [] C env).scope.kind = .function) (hx : ∀ C, (compEnvC scope [] C env).kindOf x = some .local) (hy : ∀ C, (compEnvC scope [] C env).kindOf y = some .local)
    (hd1 : (x == ("__debug__" : Str)) = false) (hd2 : (y == ("__debug__" : Str)) = false)
    (hF : At s F (ListO ws)) (hR : Rows s N ws rows) (hiter : ∀ Q : Value → Shared → Prop, Q (.ref F) s → wpAny (model prog w) A (eval i1 env) Q noE s)
    (hQ : ∀ s' D us, Kp No No s s' → Above s D → At s' D (ListO us) → NatsAre us rows.flatten → Q (.ref D) s') :
    wpAny (model prog w) A (eval (twoGens (.Name y pe) (.Name x px) i1 (.Name y py) (.Name x pl) scope pos) env) Q E s := by
  rw [eval_ListComp]
  refine wpAny_comprehension_free (cl := []) (use := none) rfl hs hclos hkind hnames ?_
  refine hiter _ ?_ |> fun h => wpAny_mono h (fun _ _ h => h) fun _ _ h => h.elim
  refine wpAny_mono (iter_list (E := noE) (Q := fun it s2 => ∃ n : Nat, it = .ref n ∧ n = s.heap.objs.size ∧ Kp No No s s2 ∧ At s2 n (IterO F 0)) hF fun s2 it e2 hit i2 => ⟨it, rfl, hit, e2, i2⟩) (fun itv s2 hit2 => ?_) fun _ _ h => h.elim
  obtain ⟨it, rfl, hit, e2, i2⟩ := hit2
  have hits : Above s it := above_le (Nat.le_of_eq hit.symm)
  refine new_list (by simp) fun s3 D e3 hD d3 => ?_
  have hlt := d3.lt
  refine wpAny_newFunctionEnv hcell (by intro y hy; simp at hy) (fun h' hn' hsb => ?_) hkind
  have e4 : Kp No No s3 { s3 with heap := h', toks := s3.toks + 0 } := Kp.keeps fun b o hb => by
    have hne : b ≠ s3.heap.objs.size := Nat.ne_of_lt (Heap.lt_size hb)
    rw [hsb.2 b hne]; exact Heap.get?_push_of_some _ hb
  have hitlt0 := i2.lt
  have hitD : it < D := Nat.lt_of_lt_of_le hitlt0 (Nat.le_of_eq hD.symm)
  have hDs : Above s D := fun (b : Nat) o g => Nat.lt_of_lt_of_le (get_lt (e2.keep b o id g)) (Nat.le_of_eq hD.symm)
  generalize hC : s3.heap.objs.size = C at *
  have d4 := d3.kp e4 id
  have c4 : At ({ s3 with heap := h', toks := s3.toks + 0 } : Shared) C (VarsO []) := vars_of hn' fun p hp => by simp at hp
  generalize hs4 : ({ s3 with heap := h', toks := s3.toks + 0 } : Shared) = s4 at *
  have hitlt := i2.lt
  have e24 : Kp No No s s4 := e2.trans (e3.trans e4)
  have hCs : Above s C := fun (b : Nat) o g => by have := hDs b o g; omega
  have hFlt := hF.lt
  show codeAny _ A (.compStart (twoGens (.Name y pe) (.Name x px) i1 (.Name y py) (.Name x pl) scope pos) 0 (.ref it) (.ref D) (compEnvC scope [] C env)) (compPost (model prog w) A E none Q (.ref D) C) s4
  let J : Nat → Shared → Prop := fun i s1 => At s1 C (VarsO []) ∧ Kp No No s s1 ∧ ∃ us, At s1 D (ListO us) ∧ NatsAre us (rows.take i).flatten
  have keepJ : ∀ i s5 s6, J i s5 → Kp (· = it) No s5 s6 → J i s6 := fun i s5 s6 ⟨j1, j2, us, j3, j4⟩ e =>
    ⟨j1.kp e (by omega), j2.news e (fun b hb => hb ▸ hits), us, j3.kp e (by omega), j4⟩
  have go : codeAny (model prog w) A (.compLoop (twoGens (.Name y pe) (.Name x px) i1 (.Name y py) (.Name x pl) scope pos) 0 (.ref it) (.ref D) (compEnvC scope [] C env)) (compPost (model prog w) A E none Q (.ref D) C) s4 := by
    refine codeAny_loop rfl (fun n s' => ∃ i, i + n = ws.length ∧ J i s' ∧ At s' it (IterO F i)) (fun n s' ⟨i, hn2, hJ, hi⟩ => ?_) ws.length ⟨0, by omega, ⟨c4, e24, [], d4, by simpa using NatsAre.nil⟩, (i2.kp (e3.trans e4) id)⟩
    show wpAny _ A ((compTurn (twoGens (.Name y pe) (.Name x px) i1 (.Name y py) (.Name x pl) scope pos) 0 (.ref it) (.ref D) (compEnvC scope [] C env)).onRaise (fun x => do noteFrame x (compEnvC scope [] C env); theTreesLotGoes x)) _ _ s'
    refine wpAny_noted ?_
    rw [compTurn_two0]
    have hF' := hF.kp hJ.2.1 id
    refine wpAny_bind (wpAny_standAt (wpAny_bind ?_))
    cases hv : ws[i]? with
    | none =>
      refine next_end hh hi hF' hv fun s5 e5 => ?_
      have hil : i = ws.length := by have := List.getElem?_eq_none_iff.mp hv; omega
      obtain ⟨j1, j2, us, j3, j4⟩ := keepJ _ s' s5 hJ e5
      rw [hil, hR.1, List.take_length] at j4
      refine wpAny_pure ?_
      obtain ⟨m, hm, _⟩ := vars_ns j1
      refine ⟨m, hm, fun h'' hs'' => ?_⟩
      have e6 : Kp (· = C) No s5 { s5 with heap := h'' } := Kp.same (tk := s5.toks) hs''
      exact hQ _ D us (j2.news e6 fun b hb => hb ▸ hCs) hDs (j3.kp e6 (by omega)) j4
    | some v =>
      have hiv : i < ws.length := (List.getElem?_eq_some_iff.mp hv).1
      have hir : i < rows.length := by rw [← hR.1]; exact hiv
      obtain ⟨O, hO, hOr, _⟩ := hR.2 i hir
      rw [hO] at hv; cases hv
      refine next_item hi hF' hO fun s5 e5 i5 => ?_
      obtain ⟨j1, j2, us, j3, j4⟩ := keepJ _ s' s5 hJ e5
      refine wpAny_bind (owned_name ?_)
      refine wpAny_bind (wpAny_assign_Name ?_)
      refine st_local [] j1 (by simp) (fun s6 e6 l6 => ?_) rfl (hk C) (hx C)
      have k6 := j2.news e6 (fun b hb => hb ▸ hCs)
      refine wpAny_bind (ev_local l6 (.head _) ?_ rfl (hk C) (hx C) hd1)
      refine wpAny_bind (wpAny_standAt (wpAny_bind (wpAny_pure (wpAny_bind (wpAny_holding ?_)))))
      obtain ⟨vs, hOl, hvs⟩ := natsO_list (hOr.kp k6 id)
      refine iter_list hOl fun s7 it2 e7 hit2 i7 => ?_
      have ltC6 := l6.lt; have ltD6 := (j3.kp e6 (by omega)).lt; have ltit6 := (i5.kp e6 (by omega)).lt; have ltO6 := hOl.lt
      have k7 := k6.trans e7
      have hit2s : Above s it2 := fun (b : Nat) o g => by have := get_lt (k6.keep b o id g); omega
      refine wpAny_bind (wpAny_runOwn ?_)
      have hrow : rows[i].length ≤ 900 := by
        have h1 : rows[i] ∈ rows := List.getElem_mem hir
        have h2 : ∀ (rs : List (List Nat)) r, r ∈ rs → r.length ≤ rs.flatten.length := by
          intro rs
          induction rs with
          | nil => intro r h; simp at h
          | cons a rs ih =>
            intro r h
            rw [List.flatten_cons, List.length_append]
            rcases List.mem_cons.mp h with rfl | h
            · omega
            · have := ih r h; omega
        have := h2 rows _ h1
        omega
      have hpre : (rows.take i).flatten.length + rows[i].length ≤ 900 := by
        have : rows.flatten = (rows.take i).flatten ++ (rows.drop i).flatten := by rw [← List.flatten_append, List.take_append_drop]
        have h2 : (rows.drop i).flatten = rows[i] ++ (rows.drop (i + 1)).flatten := by rw [List.drop_eq_getElem_cons hir, List.flatten_cons]
        rw [this, h2] at hn
        simp only [List.length_append] at hn
        omega
      have hOD : O < D := hDs O _ (hOr.live.choose_spec)
      have ltD7 : D < it2 := by omega
      refine inner_two (vs := vs) hh i7 (fun j s8 => At s8 C (VarsO []) ∧ Kp No No s s8 ∧ At s8 it (IterO F (i + 1)) ∧ At s8 O (ListO vs) ∧ ∃ us, At s8 D (ListO us) ∧ NatsAre us ((rows.take i).flatten ++ rows[i].take j)) ?_ ?_ ?_ ?_ ?_
      · exact ⟨(vars_sub l6 (by simp)).kp e7 id, k7, (i5.kp e6 (by omega)).kp e7 id, hOl.kp e7 id, us, (j3.kp e6 (by omega)).kp e7 id, by simpa using j4⟩
      · intro j s8 s9 ⟨a1, a2, a3, a3', us', a4, a5⟩ e
        exact ⟨a1.kp e (by omega), a2.news e (fun b hb => hb ▸ hit2s), a3.kp e (by omega), a3'.kp e (by omega), us', a4.kp e (by omega), a5⟩
      · intro j s8 a
        exact a.2.2.2.1
      · intro j s8 v' hv' ⟨a1, a2, a3, a3', us', a4, a5⟩ i8
        have hjl : j < rows[i].length := by rw [← hvs.length]; exact (List.getElem?_eq_some_iff.mp hv').1
        obtain ⟨t, ht⟩ := hvs.get (List.getElem?_eq_getElem hjl)
        rw [ht] at hv'; cases hv'
        refine wpAny_assign_Name ?_
        refine st_local [] a1 (by simp) (fun s9 e9 l9 => ?_) rfl (hk C) (hy C)
        refine ev_local l9 (.head _) ?_ rfl (hk C) (hy C) hd2
        have hus : us'.length ≤ 1000 := by
          rw [a5.length, List.length_append, List.length_take]; omega
        refine call_append (a4.kp e9 (by omega)) hus fun s10 e10 d10 => ?_
        refine ⟨⟨(vars_sub l9 (by simp)).kp e10 (by omega), (a2.news e9 (fun b hb => hb ▸ hCs)).news e10 (fun b hb => hb ▸ hDs), (a3.kp e9 (by omega)).kp e10 (by omega), (a3'.kp e9 (by omega)).kp e10 (by omega), _, d10, ?_⟩, (i8.kp e9 (by omega)).kp e10 (by omega)⟩
        rw [List.take_succ_eq_append_getElem hjl, ← List.append_assoc]
        exact a5.snoc _ t
      · intro s8 ⟨a1, a2, a3, a3', us', a4, a5⟩
        show wpAny _ _ (again _) _ _ s8
        refine wpAny_pure ⟨rfl, n - 1, by omega, i + 1, by omega, ⟨a1, a2, us', a4, ?_⟩, a3⟩
        rw [List.take_succ_eq_append_getElem hir, List.flatten_append]
        rw [hvs.length, List.take_length] at a5
        simpa using a5
  exact codeAny_compStart_list go (wpAny_pyIter_listiter (i2.kp (e3.trans e4) id) go)
end
end Mine
end CompFPart

section ListGPart
open PySem PySem.W PyProof.Rows PySem.Calls
namespace Mine

section
variable {prog : Program} {w : World} {A : Around} {E : Value → Shared → Prop} {s : Shared}

theorem ext_loop {d : Nat} {G g S : Nat} {R' : Nat → Prop} {R : Result → Shared → Prop} {all : List Nat} (hA : Fit d A) (h88 : 88 ≤ S) (hlen : all.length ≤ 900) {s0 : Shared} (hS0 : Above s0 S) (hSG : S ≠ G) (hSR : ¬ R' S) :
    ∀ (xs : List Nat) (pre : List Nat) (s : Shared) (V U : Nat → Prop) (vs : List Value), pre ++ xs = all → GenAt prog w d itemI xs s G g R' V U → Bs w s.heap → At s S (ListO vs) → NatsAre vs pre → Kp No No s0 s → (∀ b, V b → Out s0 b ∧ b ≠ S) → (∀ i, U i → s0.gens.size ≤ i) → s0.gens.size ≤ g →
      (∀ s' vs', Kp No No s0 s' → At s' S (ListO vs') → NatsAre vs' all → R (.ok (.ret .none)) s') →
      codeAny (model prog w) A (.builtin "list.extend.loop" ⟨[.ref S, .ref G, .none], []⟩) R s := by
  intro xs
  induction xs with
  | nil =>
    intro pre s V U vs hp hg B hS hv k0 hV hU hgg hR
    refine codeAny_builtin F.entry_extend_loop ?_
    rw [Around.under_plainId F.plain_extend_loop _]
    unfold Builtin.«list.extend.loop»
    refine wpAny_bind (hg.stop (A := A.in1) ⟨hA.handled, hA.depth⟩ B fun s1 e1 B1 => ?_)
    refine wpAny_pure (hR s1 vs (k0.newsG e1 (fun b hb => (hV b hb).1) (fun i hi => by
      rcases hi with h | h
      · exact hU i h
      · omega)) (hS.kp e1 (fun h => (hV _ h).2 rfl)) ?_)
    rw [List.append_nil] at hp
    exact hp ▸ hv
  | cons x xs ih =>
    intro pre s V U vs hp hg B hS hv k0 hV hU hgg hR
    refine codeAny_builtin F.entry_extend_loop ?_
    rw [Around.under_plainId F.plain_extend_loop _]
    unfold Builtin.«list.extend.loop»
    refine wpAny_bind (hg.next (A := A.in1) ⟨hA.handled, hA.depth⟩ B (fun v V' s1 s2 s3 s4 h _ _ => h) fun v s1 V1 U1 e1 B1 hV1 hU1 hit hg1 => ?_)
    obtain ⟨t, rfl⟩ := hit
    have hS1 := hS.kp e1 (fun h => (hV _ h).2 rfl)
    obtain ⟨o, go, hc, hdi, n, hd⟩ := id hS1
    have hvl : vs.length ≤ 900 := by
      have h1 := congrArg List.length hp
      rw [List.length_append] at h1
      rw [hv.length]; omega
    dsimp only
    refine wpAny_bind ?_
    show wpAny _ _ (updateSeq S fun y => y.push (Value.int (x : Nat) t)) _ _ s1
    obtain ⟨n', hd'⟩ := Obj.data_mapSeq hd (fun y => y.push (Value.int (x : Nat) t))
    refine wpAny_updateSeq go hd ?_ (by rw [List.size_toArray, sizeLine_eq]; omega) (by simp [sizeLine_eq]; omega)
    refine wpAny_pure ⟨plainId_quiet F.plain_extend_loop _, ?_⟩
    have e2 : Kp (· = S) No s1 { s1 with heap := s1.heap.update S (Obj.mapSeq fun y => y.push (Value.int (x : Nat) t)) } := Kp.same (tk := s1.toks) (Heap.SameBut.update ..)
    have S2 : At ({ s1 with heap := s1.heap.update S (Obj.mapSeq fun y => y.push (Value.int (x : Nat) t)) } : Shared) S (ListO (vs ++ [.int (x : Nat) t])) := by
      refine ⟨_, Heap.get?_update_self _ go (Obj.isFreed_of_seq hd'), (Obj.cls_mapSeq ..).trans hc, ?_, n', by rw [hd']; simp⟩
      obtain ⟨c1, c2, c3, c4⟩ := o
      have hd2 : c3 = _ := hd
      subst hd2
      exact hdi
    have k1 := k0.newsG e1 (fun b hb => (hV b hb).1) (fun i hi => by
      rcases hi with h | h
      · exact hU i h
      · omega)
    have hV1' : ∀ b, V1 b → Out s0 b ∧ b ≠ S := fun b hb => by
      rcases hV1 b hb with h | h
      · exact hV b h
      · exact ⟨Out.kp h.1 k0, Ne.symm (h.ne hS)⟩
    refine ih (pre ++ [x]) _ V1 U1 _ (by rw [← hp]; simp) (hg1.kp e2 (fun b hb => by subst hb; exact ⟨hSG, hSR, fun h => (hV1' _ h).2 rfl⟩) (fun _ h => h.elim)) (B1.kp e2 (fun b hb => hb ▸ h88)) S2 (hv.snoc x t) (k1.news e2 (fun b hb => hb ▸ hS0)) hV1' (fun i hi => ?_) hgg hR
    rcases hU1 i hi with h | h
    · exact hU i h
    · have := k0.gsz; omega

/-- list(a generator of ints) -/
theorem call_list_ints {d : Nat} {G g : Nat} {R' V : Nat → Prop} {xs : List Nat} {s0 : Shared} (hA : Fit d A) (hlen : xs.length ≤ 900) (hg : GenAt prog w d itemI xs s G g R' V No) (B : Bs w s.heap) (k0 : Kp No No s0 s) (hV : ∀ b, V b → Out s0 b) (hgg : s0.gens.size ≤ g) (hR' : ∀ b, R' b → Live s b)
    {Q : Value → Shared → Prop} (hQ : ∀ s' D vs, Kp No No s0 s' → Above s0 D → At s' D (ListO vs) → NatsAre vs xs → Q (.ref D) s') : wpAny (model prog w) A (call (.type "list") [.ref G]) Q E s := by
  have hT : ∀ {s' : Shared}, At s' G (GenO g) → s'.TypeIs (.ref G) "generator" := fun h => (gen_is h).typeIs
  have hsz := B.size
  refine callType_codes (Q₁ := fun obj s₁ => obj = .ref s.heap.objs.size ∧ s₁ = { s with heap := s.heap.push { cls := .type "list", data := .seq #[] } }) F.called_list (F.typeCall_list_1 _) F.entry_list_init
    (code_list_new _ ⟨rfl, rfl⟩) fun obj s₁ h₁ => ?_
  obtain ⟨rfl, hs1⟩ := h₁
  have e1 : Kp No No s s₁ := by rw [hs1]; exact Kp.push (tk := s.toks)
  have S1 : At s₁ s.heap.objs.size (ListO []) := by rw [hs1]; exact At.push rfl ⟨rfl, rfl, 0, rfl⟩
  have hS0 : Above s0 s.heap.objs.size := fun b o g => get_lt (k0.keep b o id g)
  have hGlt := hg.gen.lt
  have hg1 := hg.kp e1 (fun _ h => h.elim) (fun _ h => h.elim)
  have hVlt : ∀ b, V b → b < s.heap.objs.size := fun b hb => (hg.vl b hb).lt
  have hRlt : ∀ b, R' b → b < s.heap.objs.size := fun b hb => (hR' b hb).lt
  generalize hSd : s.heap.objs.size = S at *
  have B1 := B.kp e1 (fun _ h => h.elim)
  refine ⟨listO_typeIs S1, F.args_list_init_2 _ _, ?_⟩
  show wpAny _ _ (do let old ← Builtin.List.listItems (.ref S); Builtin.List.listUpdate (.ref S) (fun _ => #[]); letGo old.toList.reverse; Builtin.List.listExtendWith (.ref S) (.ref G) .none) _ _ s₁
  obtain ⟨o, go, hc, hdi, n, hd⟩ := id S1
  refine wpAny_bind ?_
  unfold Builtin.List.listItems
  refine wpAny_bind (wpAny_seqItems go hd (wpAny_pure ?_))
  show wpAny _ _ (updateSeq S (fun _ => #[]) >>= fun _ => letGo (#[] : Array Value).toList.reverse >>= fun _ => Builtin.List.listExtendWith (.ref S) (.ref G) .none) _ _ s₁
  have upd : ∀ (s' : Shared) (f : Array Value → Array Value) (ws ws' : List Value) (Q : Unit → Shared → Prop) (E : Value → Shared → Prop) (A : Around), At s' S (ListO ws) → f ws.toArray = ws'.toArray → ws.length ≤ 1000 → ws'.length ≤ 1000 →
      (∀ s'', Kp (· = S) No s' s'' → At s'' S (ListO ws') → Q () s'') → wpAny (model prog w) A (updateSeq S f) Q E s' := by
    intro s' f ws ws' Q E A hS hf h1 h2 hQ
    obtain ⟨o, go, hc, hdi, n, hd⟩ := id hS
    obtain ⟨n', hd'⟩ := Obj.data_mapSeq hd f
    refine wpAny_updateSeq go hd ?_ (by rw [List.size_toArray, sizeLine_eq]; omega) (by rw [hf, List.size_toArray, sizeLine_eq]; omega)
    refine hQ _ (Kp.same (tk := s'.toks) (Heap.SameBut.update ..)) ⟨_, Heap.get?_update_self _ go (Obj.isFreed_of_seq hd'), (Obj.cls_mapSeq ..).trans hc, ?_, n', by rw [hd', hf]⟩
    obtain ⟨c1, c2, c3, c4⟩ := o
    have hd2 : c3 = _ := hd
    subst hd2
    exact hdi
  refine wpAny_bind (upd s₁ (fun _ => #[]) [] [] _ _ _ S1 rfl (by simp) (by simp) fun s2 e2 S2 => ?_)
  refine wpAny_bind (wpAny_letGo ?_)
  unfold Builtin.List.listExtendWith
  have hg2 := hg1.kp e2 (fun b hb => by subst hb; exact ⟨by omega, fun h => by have := hRlt _ h; omega, fun h => by have := hVlt _ h; omega⟩) (fun _ h => h.elim)
  refine wpAny_bind (wpAny_typeOf (hT hg2.gen) ?_)
  have h1 : Builtin.List.listSameRef (.ref S) (.ref G) = false := by
    have hSG : S ≠ G := by omega
    simp [Builtin.List.listSameRef, hSG]
  have h2 : (Value.type "generator" == Value.type "list") = false := by decide
  have h3 : (Value.type "generator" == Value.type "tuple") = false := by decide
  simp only [h1, h2, h3, Bool.or_false, Bool.false_eq_true, if_false]
  refine wpAny_bind (pyIter_gen hg2.gen ?_)
  refine wpAny_bind (wpAny_holding ?_)
  unfold Builtin.List.listLengthHint
  refine wpAny_bind (wpAny_specialOf (hT hg2.gen) F.gen_no_len ?_)
  show wpAny _ _ (specialOf (Value.ref G) (Str.ofString "__length_hint__") >>= _) _ _ _
  refine wpAny_bind (wpAny_specialOf (hT hg2.gen) F.gen_no_hint ?_)
  refine wpAny_pure ?_
  show wpAny _ _ (rule "list.extend.makes-room" >>= fun _ => Builtin.List.listTouch (.ref S) >>= fun _ =>
    again (.builtin "list.extend.loop" ⟨[.ref S, .ref G, .none], []⟩)) _ _ _
  refine wpAny_bind (wpAny_rule ?_)
  refine wpAny_bind ?_
  show wpAny _ _ (updateSeq S (·.push .none) >>= fun _ => updateSeq S (·.pop)) _ _ _
  refine wpAny_bind (upd s2 (·.push .none) [] [.none] _ _ _ S2 rfl (by simp) (by simp) fun s3 e3 S3 => ?_)
  refine upd s3 (·.pop) [.none] [] _ _ _ S3 rfl (by simp) (by simp) fun s4 e4 S4 => ?_
  have hg4 := (hg2.kp e3 (fun b hb => by subst hb; exact ⟨by omega, fun h => by have := hRlt _ h; omega, fun h => by have := hVlt _ h; omega⟩) (fun _ h => h.elim)).kp e4 (fun b hb => by subst hb; exact ⟨by omega, fun h => by have := hRlt _ h; omega, fun h => by have := hVlt _ h; omega⟩) (fun _ h => h.elim)
  have B4 := ((B1.kp e2 (fun b hb => by omega)).kp e3 (fun b hb => by omega)).kp e4 (fun b hb => by omega)
  have k4 := ((((k0.trans e1).news e2 (fun b hb => hb ▸ hS0)).news e3 (fun b hb => hb ▸ hS0)).news e4 (fun b hb => hb ▸ hS0))
  refine wpAny_pure ⟨plainId_quiet F.plain_extend_loop _, ?_⟩
  refine ext_loop (A := A.in1) (all := xs) ⟨hA.handled, hA.depth⟩ (by omega) hlen hS0 (by omega) (fun h => by have := hRlt _ h; omega) xs [] s4 V No [] rfl hg4 B4 S4 NatsAre.nil k4 (fun b hb => ⟨hV b hb, by have := hVlt b hb; omega⟩) (fun _ h => h.elim) hgg fun s5 vs5 k5 S5 hv5 => ?_
  exact ⟨rfl, hQ s5 S vs5 k5 hS0 S5 hv5⟩
end
end Mine
end ListGPart

section CmpOpsPart
open PySem PySem.W PyProof.Rows PySem.Calls
namespace Mine

section
variable {prog : Program} {w : World} {A : Around} {E : Value → Shared → Prop} {s : Shared}

theorem nats_eqAt {A : Around} {a b : Nat} {vs ws : List Value} {ns : List Nat} (hv : NatsAre vs ns) (hw : NatsAre ws ns) : ∀ j (h1 : j < vs.toArray.size) (h2 : j < ws.toArray.size), SeqAt.EqAt A s vs.toArray[j] ws.toArray[j] true := by
  intro j h1 h2
  have hj : j < ns.length := by rw [← hv.length]; simpa using h1
  obtain ⟨t, ht⟩ := hv.get (List.getElem?_eq_getElem hj)
  obtain ⟨u, hu⟩ := hw.get (List.getElem?_eq_getElem hj)
  have e1 : vs.toArray[j] = .int (ns[j] : Nat) t := by
    have h1' : j < vs.length := by simpa using h1
    rw [List.getElem?_eq_getElem h1'] at ht
    simpa using ht
  have e2 : ws.toArray[j] = .int (ns[j] : Nat) u := by
    have h2' : j < ws.length := by simpa using h2
    rw [List.getElem?_eq_getElem h2'] at hu
    simpa using hu
  rw [e1, e2]
  have := SeqAt.EqAt.int_int (A := A) (s := s) (ns[j] : Nat) t (ns[j] : Nat) u
  simpa using this

theorem all_true (n : Nat) : ((List.range n).all fun _ => true) = true := List.all_eq_true.mpr fun _ _ => rfl

theorem nats_rc {A : Around} {a b : Nat} {ns : List Nat} (ha : At s a (NatsO ns)) (hb : At s b (NatsO ns)) (hu : A.units < cLine) : SeqAt.RcAt A s (.ref a) (.ref b) true := by
  obtain ⟨vs, hl, hv⟩ := natsO_list ha
  obtain ⟨ws, hm, hw⟩ := natsO_list hb
  have := SeqAt.RcAt.lists (e := fun _ => true) (listO_isList hl) (listO_isList hm) (by simp [hv.length, hw.length]) hu (nats_eqAt (a := a) (b := b) hv hw)
  rw [all_true] at this
  exact this

theorem ne_nats {a b : Nat} {ns : List Nat} (ha : At s a (NatsO ns)) (hb : At s b (NatsO ns)) (hu : A.units < cLine) {Q : Value → Shared → Prop} (hQ : Q (.bool false) s) :
    wpAny (model prog w) A (compareOp .NotEq (.ref a) (.ref b)) Q E s := by
  obtain ⟨vs, hl, hv⟩ := natsO_list ha
  obtain ⟨ws, hm, hw⟩ := natsO_list hb
  have := SeqAt.RcNeAt.lists (e := fun _ => true) (listO_isList hl) (listO_isList hm) (by simp [hv.length, hw.length]) hu (nats_eqAt (a := a) (b := b) hv hw)
  refine this prog w E Q ?_
  rw [all_true]
  exact hQ

theorem ne_rows {a b : Nat} {vs ws : List Value} {rows : List (List Nat)} {N N' : Nat → Prop} (ha : At s a (ListO vs)) (hb : At s b (ListO ws)) (hv : Rows s N vs rows) (hw : Rows s N' ws rows) (hu : A.units + 1 < cLine) {Q : Value → Shared → Prop} (hQ : Q (.bool false) s) :
    wpAny (model prog w) A (compareOp .NotEq (.ref a) (.ref b)) Q E s := by
  have := SeqAt.RcNeAt.lists (A := A) (e := fun _ => true) (listO_isList ha) (listO_isList hb) (by simp [hv.1, hw.1]) (by omega) (fun j h1 h2 => by
    have hj : j < rows.length := by rw [← hv.1]; simpa using h1
    obtain ⟨O, hO, hOr, _⟩ := hv.2 j hj
    obtain ⟨O', hO', hOr', _⟩ := hw.2 j hj
    have e1 : vs.toArray[j] = .ref O := by
      have h1' : j < vs.length := by simpa using h1
      rw [List.getElem?_eq_getElem h1'] at hO
      simpa using hO
    have e2 : ws.toArray[j] = .ref O' := by
      have h2' : j < ws.length := by simpa using h2
      rw [List.getElem?_eq_getElem h2'] at hO'
      simpa using hO'
    rw [e1, e2]
    by_cases h : O = O'
    · subst h; exact SeqAt.EqAt.same _
    · exact SeqAt.EqAt.of_refs h (nats_rc hOr hOr' hu))
  refine this prog w E Q ?_
  rw [all_true]
  exact hQ

theorem entry_set_eq : entryFor table "set.__eq__" = some Builtin.«frozenset.__eq__» :=
  entryFor_alias (id' := "frozenset.__eq__") (by kernel_rfl) rfl (by decide +kernel) (by kernel_rfl)
theorem sub_set_fs : isSubtype (.type "set") (.type "frozenset") = pure false := by rw [isSubtype_type]; kernel_rfl

theorem eq_empty {a b : Nat} {led led' c c' : Bool} (ha : At s a (SetO led c [])) (hb : At s b (SetO led' c' [])) (hu : A.units < cLine) {Q : Value → Shared → Prop} (hQ : Q (.bool true) s) :
    wpAny (model prog w) A (compareOp .Eq (.ref a) (.ref b)) Q E s := by
  have hTa := setO_typeIs ha
  have hTb := setO_typeIs hb
  obtain ⟨o, g, hex, es, ep, t, hd, x⟩ := id ha
  obtain ⟨o', g', hex', es', ep', t', hd', x'⟩ := id hb
  have hs1 : es.size = 0 := x.size
  have hs2 : es'.size = 0 := x'.size
  refine wpAny_richCompare_same_room (op := .Eq) hTa hTb F.slot_set_eq ?_ hu
  refine wpAny_call_entry F.slot_set_eq hTa entry_set_eq ?_ (F.args_set_eq_2 _ _)
  unfold Builtin.«frozenset.__eq__»
  refine wpAny_bind (wpAny_of_eq (a := (Value.ref a, Value.ref b)) rfl ?_)
  dsimp only
  refine wpAny_bind ?_
  unfold Builtin.Frozenset.isAnySet
  refine wpAny_bind (wpAny_isInstance hTb sub_set_set' ?_)
  refine wpAny_pure ?_
  rw [if_neg (by decide)]
  refine wpAny_bind (wpAny_pure ?_)
  refine wpAny_bind (wpAny_pure ?_)
  unfold Builtin.Frozenset.sizeOf
  refine wpAny_bind (wpAny_bind (wpAny_setEntries_of g hd x.fits (wpAny_pure ?_)))
  refine wpAny_bind (wpAny_bind (wpAny_setEntries_of g' hd' x'.fits (wpAny_pure ?_)))
  refine wpAny_bind ?_
  rw [if_neg (by rw [hs1, hs2]; decide)]
  refine wpAny_bind ?_
  refine wpAny_bind (wpAny_isInstance hTa sub_set_fs ?_)
  refine wpAny_pure ?_
  rw [if_neg Bool.false_ne_true]
  unfold Builtin.Frozenset.subsetOf Builtin.Frozenset.sizeOf
  refine wpAny_bind (wpAny_bind (wpAny_setEntries_of g hd x.fits (wpAny_pure ?_)))
  refine wpAny_bind (wpAny_bind (wpAny_setEntries_of g' hd' x'.fits (wpAny_pure ?_)))
  rw [if_neg (by rw [hs1, hs2]; decide)]
  refine wpAny_bind (wpAny_setEpoch_of g hd x.fits ?_)
  refine wpAny_bind (walkUnseen_ok g hd x hb ?_)
  have hnil : es.toList = [] := by
    have : es.toList.length = 0 := by simpa using hs1
    exact List.length_eq_zero_iff.mp this
  rw [hnil]
  refine wpAny_bind ?_
  show wpAny _ _ (pure _) _ _ s
  refine wpAny_pure ?_
  exact wpAny_pure (wpAny_pure ⟨_, rfl, (fun h => by cases h), hQ⟩)

/-- a new pair is not in a list of other pairs -/
theorem pair_notin {P x : Nat} {ps : List (Nat × Nat)} {a b : Nat} {R : Nat → Prop} (hP : PairsR s R P ps) (hx : At s x (PairO a b)) (hR : ¬ R x) (hu : A.units + 1 < cLine) {Q : Value → Shared → Prop} (hQ : Q (.bool (!ps.contains (a, b))) s) :
    wpAny (model prog w) A (compareOp .NotIn (.ref x) (.ref P)) Q E s := by
  obtain ⟨ws, hl, _, hlen, hat⟩ := hP
  obtain ⟨ox, gx, hcx, nx, tx, ux, hdx⟩ := hx
  have htx : s.heap.IsTuple x #[.int (a : Nat) tx, .int (b : Nat) ux] := ⟨ox, gx, hcx, nx, hdx⟩
  have uniq : ∀ {q p1 p2 : Nat}, At s q (PairO p1 p2) → (At s q (PairO a b) ↔ p1 = a ∧ p2 = b) := by
    intro q p1 p2 hq
    constructor
    · rintro ⟨o2, g2, _, n2, t2, u2, d2⟩
      obtain ⟨o1, g1, _, n1, t1, u1, d1⟩ := hq
      rw [g1] at g2; cases g2
      rw [d1] at d2
      simp at d2
      omega
    · rintro ⟨rfl, rfl⟩; exact hq
  let e : Value → Bool := fun v => @decide (∃ q : Nat, v = .ref q ∧ At s q (PairO a b)) (Classical.propDecidable _)
  refine SeqAt.notIn_listAt (items := ws.toArray) e (listO_isList hl) (fun y hy => ?_) ?_
  · obtain ⟨i, hi, rfl⟩ := List.getElem_of_mem (show y ∈ ws by simpa using hy)
    obtain ⟨q, hqR, hq, hqp⟩ := hat i (by omega)
    rw [List.getElem?_eq_getElem hi] at hq
    rw [Option.some.inj hq]
    obtain ⟨oq, gq, hcq, nq, tq, uq, hdq⟩ := id hqp
    have htq : s.heap.IsTuple q #[.int (ps[i].1 : Nat) tq, .int (ps[i].2 : Nat) uq] := ⟨oq, gq, hcq, nq, hdq⟩
    have hqx : q ≠ x := fun h => hR (h ▸ hqR)
    have hrc := SeqAt.RcAt.tuples (A := A.in1) (e := fun j => if j = 0 then ((ps[i].1 : Nat) : Int) == (a : Nat) else ((ps[i].2 : Nat) : Int) == (b : Nat)) htq htx hu (fun j h1 h2 => by
      match j with
      | 0 => exact SeqAt.EqAt.int_int _ _ _ _
      | 1 => exact SeqAt.EqAt.int_int _ _ _ _
      | j + 2 => exact absurd (show j + 2 < 2 from h1) (by omega))
    have hval : e (.ref q) = ((List.range (min 2 2)).all (fun j => if j = 0 then ((ps[i].1 : Nat) : Int) == (a : Nat) else ((ps[i].2 : Nat) : Int) == (b : Nat)) && (2 == 2)) := by
      show @decide _ (Classical.propDecidable _) = _
      rw [Bool.eq_iff_iff, @decide_eq_true_eq _ (Classical.propDecidable _)]
      have h1 : (∃ q' : Nat, Value.ref q = .ref q' ∧ At s q' (PairO a b)) ↔ At s q (PairO a b) :=
        ⟨fun ⟨q', h, h'⟩ => by injection h with h; subst h; exact h', fun h => ⟨q, rfl, h⟩⟩
      rw [h1, uniq hqp]
      simp [List.range_succ]
      omega
    rw [hval]
    exact SeqAt.EqAt.of_refs hqx hrc
  · have : ws.toArray.any e = ps.contains (a, b) := by
      rw [Bool.eq_iff_iff, List.contains_iff_mem]
      simp only [List.any_toArray, List.any_eq_true]
      constructor
      · rintro ⟨y, hy, hy2⟩
        have hy2 := (@decide_eq_true_eq _ (Classical.propDecidable _)).mp hy2
        obtain ⟨i, hi, rfl⟩ := List.getElem_of_mem hy
        obtain ⟨q, _, hq, hqp⟩ := hat i (by omega)
        rw [List.getElem?_eq_getElem hi] at hq
        obtain ⟨q', h1, h2⟩ := hy2
        rw [Option.some.inj hq] at h1
        injection h1 with h1
        subst h1
        have := (uniq hqp).mp h2
        have h3 : ps[i] ∈ ps := List.getElem_mem (by omega)
        rw [show ps[i] = (a, b) from Prod.ext this.1 this.2] at h3
        exact h3
      · intro hm
        obtain ⟨i, hi, he⟩ := List.getElem_of_mem hm
        obtain ⟨q, _, hq, hqp⟩ := hat i hi
        refine ⟨.ref q, List.mem_of_getElem? hq, (@decide_eq_true_eq _ (Classical.propDecidable _)).mpr ⟨q, rfl, ?_⟩⟩
        rw [he] at hqp
        exact hqp
    rw [this]
    exact hQ
end
end Mine
end CmpOpsPart

section PairLPart
open PySem PySem.W PyProof.Rows PySem.Calls
namespace Mine

/-- a list's items are pairs, at N -/
def PL (s : Shared) (N : Nat → Prop) (ws : List Value) (ps : List (Nat × Nat)) : Prop :=
  ws.length = ps.length ∧ ∀ (i : Nat) (h : i < ps.length), ∃ x : Nat, ws[i]? = some (.ref x) ∧ At s x (PairO ps[i].1 ps[i].2) ∧ N x

theorem PL.kp {s s' : Shared} {N P D : Nat → Prop} {ws ps} (x : PL s N ws ps) (e : Kp P D s s') (hp : ∀ b, P b → ¬ N b) : PL s' N ws ps :=
  ⟨x.1, fun i h => let ⟨q, h1, h2, h3⟩ := x.2 i h; ⟨q, h1, h2.kp e fun hb => hp _ hb h3, h3⟩⟩
theorem PL.imp {s : Shared} {N N' : Nat → Prop} {ws ps} (x : PL s N ws ps) (h : ∀ b, Live s b → N b → N' b) : PL s N' ws ps :=
  ⟨x.1, fun i hi => let ⟨q, h1, h2, h3⟩ := x.2 i hi; ⟨q, h1, h2, h _ h2.live h3⟩⟩
theorem PL.snoc {s : Shared} {N : Nat → Prop} {ws ps} (x : PL s N ws ps) {q a b : Nat} (h : At s q (PairO a b)) (hn : N q) : PL s N (ws ++ [.ref q]) (ps ++ [(a, b)]) := by
  refine ⟨by simp [x.1], fun i hi => ?_⟩
  rcases Nat.lt_or_ge i ps.length with h' | h'
  · obtain ⟨q', h1, h2, h3⟩ := x.2 i h'
    refine ⟨q', ?_, by rw [List.getElem_append_left h']; exact h2, h3⟩
    rw [List.getElem?_append_left (by rw [x.1]; exact h')]; exact h1
  · have : i = ps.length := by simp at hi; omega
    subst this
    refine ⟨q, ?_, by rw [List.getElem_append_right (Nat.le_refl _)]; simpa using h, hn⟩
    rw [← x.1]; simp

abbrev prR (P : Nat) (ws : List Value) (b : Nat) : Prop := b = P ∨ ∃ i : Nat, ws[i]? = some (.ref b)
theorem PL.toR {s : Shared} {N : Nat → Prop} {ws ps} {P : Nat} (x : PL s N ws ps) (hP : At s P (ListO ws)) : PairsR s (prR P ws) P ps :=
  ⟨ws, hP, .inl rfl, x.1, fun i h => let ⟨q, h1, h2, _⟩ := x.2 i h; ⟨q, .inr ⟨i, h1⟩, h1, h2⟩⟩
theorem PL.at {s : Shared} {N : Nat → Prop} {ws ps} {P b : Nat} (x : PL s N ws ps) (h : prR P ws b) : b = P ∨ (N b ∧ Live s b) := by
  rcases h with h | ⟨i, h⟩
  · exact .inl h
  · have hi : i < ps.length := by rw [← x.1]; exact (List.getElem?_eq_some_iff.mp h).1
    obtain ⟨q, h1, h2, h3⟩ := x.2 i hi
    rw [h1] at h
    injection h with h; injection h with h
    subst h
    exact .inr ⟨h3, h2.live⟩

section
variable {prog : Program} {w : World} {A : Around} {E : Value → Shared → Prop} {s : Shared} {env : Env}

theorem new_pair {a b : Nat} {t u : Tok} {Q : Value → Shared → Prop} (hQ : ∀ s' x, Kp No No s s' → x = s.heap.objs.size → At s' x (PairO a b) → Q (.ref x) s') : wpAny (model prog w) A (newTuple [.int (a : Nat) t, .int (b : Nat) u]) Q E s := by
  refine wpAny_newObj_type (hQ _ _ (Kp.push (tk := s.toks)) rfl (At.push rfl ⟨rfl, 0, t, u, rfl⟩)) ?_
  show 2 ≤ sizeLine
  rw [sizeLine_eq]; omega

abbrev swp (ps : List (Nat × Nat)) : List (Nat × Nat) := ps.map fun p => (p.2, p.1)

/-- [(child, parent) for parent, child in pairs] -/
theorem comp_turned {p1 p2 p3 p4 p5 p6 p7 pos : Pos} {k1 k2 : Nat} {scope : Scope} {P : Nat} {R : Nat → Prop} {ps : List (Nat × Nat)} {Q : Value → Shared → Prop} (hh : A.handled = none) (hlen : ps.length ≤ 900)
    (hscope : scope = { kind := .function, names := [(Str.ofString ".0", .local), (Str.ofString "parent", .local), (Str.ofString "child", .local)], isGenerator := false, isCoroutine := false, more := [] })
    (hP : PairsR s R P ps) (hiter : ∀ Q : Value → Shared → Prop, Q (.ref P) s → wpAny (model prog w) A (eval (.Name "pairs" p6) env) Q noE s)
    (hQ : ∀ s' D ws, Kp No No s s' → Above s D → At s' D (ListO ws) → PL s' (fun b => Out s b ∧ b ≠ D) ws (swp ps) → Q (.ref D) s') :
    wpAny (model prog w) A (eval (.ListComp (.Tuple [.Name "child" p1, .Name "parent" p2] k1 p3) [⟨.Tuple [.Name "parent" p4, .Name "child" p5] k2 p7, .Name "pairs" p6, [], 0⟩] scope pos) env) Q E s := by
  subst hscope
  obtain ⟨vs, hl, hRP, hvl, hat⟩ := hP
  refine comp_open (cl := []) rfl rfl (by decide) (by decide) rfl (fun _ => rfl) (hiter _ ?_)
  refine iter_list hl fun s2 it e2 hit i2 => ?_
  intro s4 D C e4 hD hDC d4 c4
  have hitD := i2.above hD
  have hDs : Above s D := hD.kp e2
  have hCs : Above s C := fun b o g => Nat.lt_trans (hDs b o g) hDC
  have hits : Above s it := above_le (Nat.le_of_eq hit.symm)
  refine comp_list (l := P) (vs := vs) hh (i2.kp e4 id) (fun i s1 => At s1 C (VarsO []) ∧ Kp No No s s1 ∧ ∃ ws, At s1 D (ListO ws) ∧ PL s1 (fun b => Out s b ∧ b ≠ D ∧ b ≠ C ∧ b ≠ it) ws (swp (ps.take i))) ?_ ?_ ?_ ?_ ?_
  · exact ⟨c4, e2.trans e4, [], d4, by simp [PL]⟩
  · intro i s5 s6 ⟨j1, j2, ws, j3, j4⟩ e
    exact ⟨j1.kp e (by omega), j2.news e (fun b hb => hb ▸ hits), ws, j3.kp e (by omega), j4.kp e (fun b hb h => h.2.2.2 hb)⟩
  · intro i s5 J
    exact hl.kp J.2.1 id
  · intro i s5 v hiv hvv ⟨j1, j2, ws, j3, j4⟩ hi5
    have hip : i < ps.length := by omega
    obtain ⟨q, hqR, hq, hqp⟩ := hat i hip
    rw [hq] at hvv; cases hvv
    refine owned_tuple hi5 ?_
    refine assign_pair hh (hqp.kp j2 id) [] j1 (by simp) (by decide) (fun s6 ta tb e6 l6 => ?_) rfl rfl rfl rfl
    refine wpAny_pure ?_
    rw [if_pos rfl]
    have k6 := j2.news e6 (fun b hb => hb ▸ hCs)
    refine Tuple_ ?_
    refine spliced_cons ?_
    refine ev_local l6 (.head _) ?_
    refine spliced_cons ?_
    refine ev_local l6 (.tail _ (.head _)) ?_
    refine spliced_nil ?_
    refine new_pair fun s7 x e7 hx x7 => ?_
    have ltD := (j3.kp e6 (by omega)).lt; have ltC := l6.lt; have ltit := (hi5.kp e6 (by omega)).lt
    have hxs : Above s x := fun b o g => by rw [hx]; exact get_lt (k6.keep b o id g)
    have hws : ws.length ≤ 1000 := by rw [j4.1]; simp; omega
    refine call_append ((j3.kp e6 (by omega)).kp e7 id) hws fun s8 e8 d8 => ?_
    refine ⟨⟨(vars_sub (l6.kp e7 id) (by simp)).kp e8 (by omega), (k6.trans e7).news e8 (fun b hb => hb ▸ hDs), _, d8, ?_⟩, ((hi5.kp e6 (by omega)).kp e7 id).kp e8 (by omega)⟩
    have h1 : swp (ps.take (i + 1)) = swp (ps.take i) ++ [(ps[i].2, ps[i].1)] := by
      unfold swp
      rw [List.take_succ_eq_append_getElem hip, List.map_append]; rfl
    rw [h1]
    refine PL.snoc ?_ (x7.kp e8 (by omega)) ⟨out_of_above hxs, by omega, by omega, by omega⟩
    exact ((j4.kp e6 (fun b hb h => h.2.2.1 hb)).kp e7 (fun _ h => h.elim)).kp e8 (fun b hb h => h.2.1 hb)
  · intro s5 ⟨j1, j2, ws, j3, j4⟩
    refine ⟨⟨_, rfl⟩, j1, fun s6 e6 => ?_⟩
    rw [show vs.length = ps.length from hvl, List.take_length] at j4
    exact hQ s6 D ws (j2.news e6 fun b hb => hb ▸ hCs) hDs (j3.kp e6 (by omega)) ((j4.kp e6 (fun b hb h => h.2.2.1 hb)).imp fun b _ h => ⟨h.1, h.2.1⟩)
end
end Mine
end PairLPart

section PlainPart
open PySem PySem.W PyProof.Rows PySem.Calls
namespace Mine

/-- L tells the longest row of items from x on -/
def Lev (kv : List (Nat × Nat)) (L : Nat → Nat) : Prop := ∀ x, L x = 1 + maxL ((kv.filter fun q => q.1 == x).map fun q => L q.2)

theorem Lev.of {kv : List (Nat × Nat)} {h : Nat → Nat} (hd : ∀ q ∈ kv, h q.2 < h q.1) {N : Nat} (hN : ∀ x, h x ≤ N) : Lev kv (Lf kv N) := fun x => (Lf_step hd N x (hN x)).symm
theorem Lev.pos {kv L} (H : Lev kv L) (x : Nat) : 1 ≤ L x := by rw [H x]; omega
theorem Lev.down {kv L} (H : Lev kv L) {x y : Nat} (h : (x, y) ∈ kv) : L y + 1 ≤ L x := by
  rw [H x]
  have : L y ∈ (kv.filter fun q => q.1 == x).map fun q => L q.2 := List.mem_map.mpr ⟨(x, y), List.mem_filter.mpr ⟨h, by simp⟩, rfl⟩
  have := le_maxL this
  omega
theorem Lev.some {kv L} (H : Lev kv L) {x : Nat} (h : 2 ≤ L x) : ∃ y, (x, y) ∈ kv ∧ L x = 1 + L y := by
  have hx := H x
  rcases maxL_mem ((kv.filter fun q => q.1 == x).map fun q => L q.2) with h' | h'
  · omega
  · obtain ⟨q, hq, he⟩ := List.mem_map.mp h'
    obtain ⟨hq1, hqx⟩ := List.mem_filter.mp hq
    have hqx : q.1 = x := by simpa using hqx
    subst hqx
    exact ⟨q.2, hq1, by omega⟩
theorem Lev.acy {kv L} (H : Lev kv L) : Acy kv := ⟨L, fun q hq => by have := H.down (x := q.1) (y := q.2) hq; omega⟩

def top (L : Nat → Nat) (ns : List Nat) : Nat := maxL (ns.map L)
theorem le_top {L : Nat → Nat} {ns : List Nat} {x : Nat} (h : x ∈ ns) : L x ≤ top L ns := le_maxL (List.mem_map_of_mem h)
theorem top_mem {L : Nat → Nat} {ns : List Nat} (h : top L ns ≠ 0) : ∃ x ∈ ns, L x = top L ns := by
  rcases maxL_mem (ns.map L) with h' | h'
  · exact absurd h' h
  · obtain ⟨x, hx, he⟩ := List.mem_map.mp h'
    exact ⟨x, hx, he⟩

theorem layers {kv L} (H : Lev kv L) {ns : List Nat} (hcl : ∀ q ∈ kv, q.1 ∈ ns → q.2 ∈ ns) :
    ∀ n k, (ns.filter fun x => decide (k < L x)).length ≤ n → peel kv n (ns.filter fun x => decide (k < L x)) = (List.range (top L ns - k)).map fun j => ns.filter fun x => L x == k + j + 1 := by
  intro n
  induction n with
  | zero =>
    intro k hn
    have hnil : ns.filter (fun x => decide (k < L x)) = [] := List.length_eq_zero_iff.mp (by omega)
    have htop : top L ns ≤ k := by
      rcases Nat.lt_or_ge k (top L ns) with h | h
      · obtain ⟨x, hx, he⟩ := top_mem (L := L) (ns := ns) (by omega)
        have : x ∈ ns.filter (fun x => decide (k < L x)) := List.mem_filter.mpr ⟨hx, by simp; omega⟩
        rw [hnil] at this; simp at this
      · exact h
    rw [show top L ns - k = 0 by omega]
    rfl
  | succ n ih =>
    intro k hn
    rw [peel]
    by_cases hnil : ns.filter (fun x => decide (k < L x)) = []
    · rw [if_pos hnil]
      have htop : top L ns ≤ k := by
        rcases Nat.lt_or_ge k (top L ns) with h | h
        · obtain ⟨x, hx, he⟩ := top_mem (L := L) (ns := ns) (by omega)
          have : x ∈ ns.filter (fun x => decide (k < L x)) := List.mem_filter.mpr ⟨hx, by simp; omega⟩
          rw [hnil] at this; simp at this
        · exact h
      rw [show top L ns - k = 0 by omega]
      rfl
    · rw [if_neg hnil]
      have hrdy : ∀ x ∈ ns.filter (fun x => decide (k < L x)), (rdy kv (ns.filter fun x => decide (k < L x)) x = true ↔ L x = k + 1) := by
        intro x hx
        obtain ⟨hxn, hxk⟩ := List.mem_filter.mp hx
        have hxk : k < L x := by simpa using hxk
        rw [rdy_iff]
        constructor
        · intro hr
          rcases Nat.lt_or_ge (L x) 2 with h2 | h2
          · omega
          · obtain ⟨y, hy, he⟩ := H.some h2
            have hyn := hcl _ hy hxn
            have := hr y hy
            have hyk : ¬ k < L y := fun h => this (List.mem_filter.mpr ⟨hyn, by simpa using h⟩)
            omega
        · intro hx1 y hy hm
          have := (List.mem_filter.mp hm).2
          have h1 : k < L y := by simpa using this
          have := H.down hy
          omega
      have h1 : (ns.filter fun x => decide (k < L x)).filter (rdy kv (ns.filter fun x => decide (k < L x))) = ns.filter fun x => L x == k + 1 := by
        rw [List.filter_congr (q := fun x => L x == k + 1) (fun x hx => by rw [Bool.eq_iff_iff, hrdy x hx]; simp), List.filter_filter]
        refine List.filter_congr fun x _ => ?_
        rw [Bool.eq_iff_iff]; simp; omega
      have h2 : (ns.filter fun x => decide (k < L x)).filter (fun x => ! rdy kv (ns.filter fun x => decide (k < L x)) x) = ns.filter fun x => decide (k + 1 < L x) := by
        rw [List.filter_congr (q := fun x => !(L x == k + 1)) (fun x hx => by
          have := hrdy x hx
          by_cases h : L x = k + 1
          · rw [this.mpr h]; simp [h]
          · have hn : rdy kv (ns.filter fun x => decide (k < L x)) x = false := by
              cases hh : rdy kv (ns.filter fun x => decide (k < L x)) x
              · rfl
              · exact absurd (this.mp hh) h
            rw [hn]; simp [h]), List.filter_filter]
        refine List.filter_congr fun x _ => ?_
        rw [Bool.eq_iff_iff]; simp; omega
      obtain ⟨y, hy, hyr⟩ := rdy_some H.acy hnil
      have hlt := filter_shorter hy hyr
      rw [h2] at hlt
      have hkt : k < top L ns := by
        obtain ⟨hyn, hyk⟩ := List.mem_filter.mp hy
        have := le_top (L := L) hyn
        have : k < L y := by simpa using hyk
        omega
      rw [h1, h2, ih (k + 1) (by omega)]
      rw [show top L ns - k = (top L ns - (k + 1)) + 1 by omega, List.range_succ_eq_map, List.map_cons, List.map_map]
      congr 1
      refine List.map_congr_left fun j _ => ?_
      show _ = ns.filter fun x => L x == k + (j + 1) + 1
      refine List.filter_congr fun x _ => ?_
      rw [show k + 1 + j + 1 = k + (j + 1) + 1 by omega]

theorem layers0 {kv L} (H : Lev kv L) {ns : List Nat} (hcl : ∀ q ∈ kv, q.1 ∈ ns → q.2 ∈ ns) : peel kv ns.length ns = rowsOf L ns (top L ns) := by
  have h0 : ns.filter (fun x => decide (0 < L x)) = ns := List.filter_eq_self.mpr fun x _ => by have := H.pos x; simp; omega
  have := layers H hcl ns.length 0 (by rw [h0]; exact Nat.le_refl _)
  rw [h0, Nat.sub_zero] at this
  rw [this]
  refine List.map_congr_left fun j _ => ?_
  refine List.filter_congr fun x _ => ?_
  rw [show 0 + j + 1 = j + 1 by omega]

theorem top_swp_le {kv L L'} (H : Lev kv L) (H' : Lev (swp kv) L') {ns : List Nat} (hcl : ∀ q ∈ kv, q.1 ∈ ns → q.2 ∈ ns) : top L ns ≤ top L' ns := by
  have key : ∀ m x, x ∈ ns → L x = m → ∃ z ∈ ns, L x + L' x ≤ L' z + 1 := by
    intro m
    induction m using Nat.strongRecOn with
    | ind m ih =>
      intro x hx hm
      rcases Nat.lt_or_ge (L x) 2 with h2 | h2
      · exact ⟨x, hx, by omega⟩
      · obtain ⟨y, hy, he⟩ := H.some h2
        have hyn := hcl _ hy hx
        obtain ⟨z, hz, hle⟩ := ih (L y) (by omega) y hyn rfl
        have : (y, x) ∈ swp kv := List.mem_map.mpr ⟨(x, y), hy, rfl⟩
        have := H'.down this
        exact ⟨z, hz, by omega⟩
  rcases Nat.eq_zero_or_pos (top L ns) with h | h
  · omega
  · obtain ⟨x, hx, he⟩ := top_mem (L := L) (ns := ns) (by omega)
    obtain ⟨z, hz, hle⟩ := key _ x hx rfl
    have := le_top (L := L') hz
    have := H'.pos x
    omega

theorem swp_swp (ps : List (Nat × Nat)) : swp (swp ps) = ps := by
  unfold swp
  rw [List.map_map]
  exact List.map_id _
theorem kvOf_swp (ps : List (Nat × Nat)) : kvOf true ps = swp ps := rfl

theorem top_swp {kv L L'} (H : Lev kv L) (H' : Lev (swp kv) L') {ns : List Nat} (hcl : ∀ q ∈ kv, q.1 ∈ ns ∧ q.2 ∈ ns) : top L ns = top L' ns := by
  refine Nat.le_antisymm (top_swp_le H H' fun q hq _ => (hcl q hq).2) ?_
  refine top_swp_le H' (by rw [swp_swp]; exact H) fun q hq _ => ?_
  obtain ⟨p, hp, rfl⟩ := List.mem_map.mp hq
  exact (hcl p hp).1

theorem Lev.add {kv L} (H : Lev kv L) {a b : Nat} (ha : L a = 1) (hb : 2 ≤ L b) : Lev (kv ++ [(b, a)]) L := by
  intro x
  rw [List.filter_append, List.map_append]
  by_cases hx : b = x
  · subst hx
    have hb' := H b
    have e : maxL (((kv.filter fun q => q.1 == b).map fun q => L q.2) ++ [L a]) = maxL ((kv.filter fun q => q.1 == b).map fun q => L q.2) := by
      unfold maxL
      rw [List.foldl_append]
      show max (List.foldl max 0 _) (L a) = _
      have : 1 ≤ maxL ((kv.filter fun q => q.1 == b).map fun q => L q.2) := by omega
      unfold maxL at this
      omega
    have e2 : ([(b, a)].filter fun q => q.1 == b).map (fun q => L q.2) = [L a] := by simp
    rw [e2, e]
    exact hb'
  · have e2 : ([(b, a)].filter fun q => q.1 == x).map (fun q => L q.2) = [] := by simp [hx]
    rw [e2, List.append_nil]
    exact H x

theorem Lf_le (kv : List (Nat × Nat)) : ∀ n x, Lf kv n x ≤ n + 1 := by
  intro n
  induction n with
  | zero => intro x; exact Nat.le_refl _
  | succ n ih =>
    intro x
    show 1 + maxL _ ≤ _
    rcases maxL_mem ((kv.filter fun q => q.1 == x).map fun q => Lf kv n q.2) with h | h
    · omega
    · obtain ⟨q, _, he⟩ := List.mem_map.mp h
      have := ih q.2
      omega

theorem rows_len (av : Nat → Nat) (ns : List Nat) : ∀ n, (rowsOf av ns n).flatten.length ≤ n * ns.length := by
  intro n
  induction n with
  | zero => simp [rowsOf]
  | succ n ih =>
    unfold rowsOf at *
    rw [List.range_succ, List.map_append, List.flatten_append, List.length_append]
    have : ([n].map fun k => ns.filter fun x => av x == k + 1).flatten.length ≤ ns.length := by
      simp; exact List.length_filter_le _ _
    rw [Nat.succ_mul]
    omega
end Mine
end PlainPart

section Law1Part
open PySem PySem.W PyProof.Rows PySem.Calls
namespace Mine

noncomputable def lawStmt (P : Params) (i : Nat) : Stmt := ((bodyOf (fdOf P 87))[i]?).getD (.Pass ⟨0, 0, 0, 0⟩)

section
variable {prog : Program} {w : World} {A : Around} {E : Value → Shared → Prop} {s : Shared} {L fa : Nat} {cd : Value}

theorem assign_names2 {env : Env} {x1 x2 : Str} {q1 q2 p : Pos} {k : Nat} {v : Value} {Q : Unit → Shared → Prop}
    (h : wpAny (model prog w) A (unpackItems v 2 none) (fun vs s1 => ∃ v1 v2, vs = [v1, v2] ∧ wpAny (model prog w) A (storeName env x1 v1) (fun _ s2 => wpAny (model prog w) A (storeName env x2 v2) Q E s2) E s1) E s) :
    wpAny (model prog w) A (assign (.Tuple [.Name x1 q1, .Name x2 q2] k p) env v) Q E s := by
  rw [arm_assign_Tuple]
  refine wpAny_bind (wpAny_standAt ?_)
  unfold unpack
  refine wpAny_bind (wpAny_holding (wpAny_mono h (fun vs s1 h1 => ?_) fun _ _ h => h))
  obtain ⟨v1, v2, rfl, h1⟩ := h1
  show wpAny _ _ (do holding [v2] (assign (.Name x1 q1) env v1); assignInOrder [assign (.Name x2 q2) env] [v2]) Q E s1
  refine wpAny_bind (wpAny_holding (wpAny_assign_Name (wpAny_mono h1 (fun _ s2 h2 => ?_) fun _ _ h => h)))
  show wpAny _ _ (do holding [] (assign (.Name x2 q2) env v2); pure ()) Q E s2
  exact wpAny_bind (wpAny_holding (wpAny_assign_Name (wpAny_mono h2 (fun _ s3 h3 => wpAny_pure h3) fun _ _ h => h)))

theorem ev_int {env : Env} {i : Int} {Q : Value → Shared → Prop} (hQ : ∀ s' t, Kp No No s s' → Q (.int i t) s') (k : Nat := 0) (pos : Pos := ⟨0, 0, 0, 0⟩) : wpAny (model prog w) A (eval (.Constant (.int i) k pos) env) Q E s := by
  refine wpAny_Constant_int ?_
  exact hQ _ _ (Kp.toks (tk := s.toks + 1))

theorem ints_take2 {vs : List Value} {ns : List Int} (h : IntsAre vs ns) (hl : 2 ≤ vs.length) : ∃ a b ta tb, vs.take 2 = [.int a ta, .int b tb] := by
  cases h with
  | nil => simp at hl
  | cons a ta h =>
    cases h with
    | nil => simp at hl
    | cons b tb h => exact ⟨a, b, ta, tb, rfl⟩

theorem law_s1 (hh : A.handled = none) {S : Nat} {vs : List Value} {ns : List Int} {va vb : Option Value} (hL : At s L (VarsO [(Str.ofString "script", .ref S)])) (hS : At s S (SeqO vs)) (hi : IntsAre vs ns) (hlen : vs.length ≤ 63)
    (ca : At s (L + 1) (CellO va)) (cb : At s (L + 2) (CellO vb)) {Q : Flow → Shared → Prop}
    (hQ : ∀ s' (a b : Int) ta tb, Kp (fun x => x = L + 1 ∨ x = L + 2) No s s' → At s' (L + 1) (CellO (some (.int a ta))) → At s' (L + 2) (CellO (some (.int b tb))) → Q .next s') :
    wpAny (model prog w) A (exec (lawStmt w.params 0) (envLaw w.params L fa cd)) Q E s := by
  refine PyProof.Rows.Assign_Tuple ?_
  refine ev_slice ?_
  refine wpAny_BinOp ?_
  refine ev_slice ?_
  refine ev_local hL (.head _) ?_
  refine wpAny_pure ?_
  refine ev_int fun s1 t1 e1 => ?_
  refine ⟨S, vs, none, some 2, rfl, hS.kp e1 id, .none, .int 2 _, by omega, fun s2 D e2 hD d2 => ?_⟩
  refine List_ ?_
  refine spliced_cons ?_
  refine ev_int fun s3 t3 e3 => ?_
  refine spliced_cons ?_
  refine ev_int fun s4 t4 e4 => ?_
  refine spliced_nil ?_
  refine new_list (by simp) fun s5 Z e5 hZ z5 => ?_
  refine add_lists' (((d2.kp e3 id).kp e4 id).kp e5 id) z5 (by simp; omega) fun s6 Y e6 hY y6 => ?_
  refine wpAny_pure ?_
  refine ev_int fun s7 t7 e7 => ?_
  have hall : ∃ ms, IntsAre (List.take ((some (2 : Int)).elim vs.length (clipAt vs.length) - (none : Option Int).elim 0 (clipAt vs.length)) (List.drop ((none : Option Int).elim 0 (clipAt vs.length)) vs) ++ [.int 0 t3, .int 0 t4]) ms :=
    ⟨_, ((hi.drop _).take _).append (IntsAre.cons 0 t3 (IntsAre.cons 0 t4 IntsAre.nil))⟩
  generalize hw : List.take ((some (2 : Int)).elim vs.length (clipAt vs.length) - (none : Option Int).elim 0 (clipAt vs.length)) (List.drop ((none : Option Int).elim 0 (clipAt vs.length)) vs) ++ [.int 0 t3, .int 0 t4] = ws at hall y6
  have hwl : 2 ≤ ws.length ∧ ws.length ≤ 70 := by
    rw [← hw]; simp; omega
  obtain ⟨ms, hms⟩ := hall
  obtain ⟨a, b, ta, tb, hab⟩ := ints_take2 hms hwl.1
  refine ⟨Y, ws, none, some 2, rfl, (y6.kp e7 id).imp fun o ho => ListO.seq ho, .none, .int 2 _, by omega, fun s8 D8 e8 hD8 d8 => ?_⟩
  have hclip : clipAt ws.length 2 = 2 := by unfold clipAt; omega
  have h2 : List.take ((some (2 : Int)).elim ws.length (clipAt ws.length) - (none : Option Int).elim 0 (clipAt ws.length)) (List.drop ((none : Option Int).elim 0 (clipAt ws.length)) ws) = [.int a ta, .int b tb] := by
    show List.take (clipAt ws.length 2 - 0) (List.drop 0 ws) = _
    rw [hclip]; exact hab
  rw [h2] at d8
  have e08 : Kp No No s s8 := ((((((((e1.trans e2).trans e3).trans e4).trans e5).trans e6).trans e7).trans e8))
  refine assign_names2 (unpack2 hh d8 fun s9 e9 => ⟨_, _, rfl, ?_⟩)
  have e09 := e08.trans e9
  refine st_cell (ca.kp e09 id) fun s10 e10 a10 => ?_
  refine st_cell ((cb.kp e09 id).kp e10 (by omega)) fun s11 e11 b11 => ?_
  refine hQ s11 a b ta tb ?_ (a10.kp e11 (by omega)) b11
  exact ((kp_no e09).trans (e10.mono (fun b _ _ h => .inl h) fun _ _ h => h)).trans (e11.mono (fun b _ _ h => .inr h) fun _ _ h => h)
end
end Mine
end Law1Part

section Law2Part
open PySem PySem.W PyProof.Rows PySem.Calls
namespace Mine

section
variable {prog : Program} {w : World} {A : Around} {E : Value → Shared → Prop} {s : Shared} {L fa : Nat} {cd : Value}

theorem op_add {a b : Int} {t u : Tok} {Q : Value → Shared → Prop} (hQ : ∀ s' t, Kp No No s s' → Q (.int (a + b) t) s') : wpAny (model prog w) A (binaryOp .Add (.int a t) (.int b u)) Q E s := PyProof.Rows.add_int (hQ _ _ (Kp.toks (tk := s.toks + 1)))
theorem op_mod {a b : Int} {t u : Tok} {Q : Value → Shared → Prop} (hb : b ≠ 0) (hQ : ∀ s' t, Kp No No s s' → Q (.int (a.fmod b) t) s') : wpAny (model prog w) A (binaryOp .Mod (.int a t) (.int b u)) Q E s := PyProof.Rows.mod_int hb (hQ _ _ (Kp.toks (tk := s.toks + 1)))
theorem op_fdiv {a b : Int} {t u : Tok} {Q : Value → Shared → Prop} (hb : b ≠ 0) (hs : b.natAbs < 1073741824) (hQ : ∀ s' t, Kp No No s s' → Q (.int (a.fdiv b) t) s') : wpAny (model prog w) A (binaryOp .FloorDiv (.int a t) (.int b u)) Q E s := PyProof.Rows.floordiv_int hb (hQ _ _ (Kp.toks (tk := s.toks + 1))) (.inl (PyProof.noPylong_small hs))
theorem op_neg {a : Int} {t : Tok} {Q : Value → Shared → Prop} (hQ : ∀ s' t, Kp No No s s' → Q (.int (-a) t) s') : wpAny (model prog w) A (unaryOp .USub (.int a t)) Q E s := PyProof.Rows.neg_int (hQ _ _ (Kp.toks (tk := s.toks + 1)))

theorem fmod_lt {x : Int} {m : Nat} (hm : 0 < m) : ∃ k : Nat, x.fmod (m : Int) = (k : Int) ∧ k < m := by
  have h1 : x.fmod (m : Int) = x % (m : Int) := Int.fmod_eq_emod_of_nonneg x (by omega)
  have h2 := Int.emod_nonneg x (show (m : Int) ≠ 0 by omega)
  have h3 := Int.emod_lt_of_pos x (show 0 < (m : Int) by omega)
  exact ⟨(x % (m : Int)).toNat, by omega, by omega⟩

theorem unpack2_tuple {x : Nat} {v1 v2 : Value} (hh : A.handled = none) (hx : s.heap.IsTuple x #[v1, v2]) {Q : List Value → Shared → Prop} (hQ : ∀ s', Kp No No s s' → Q [v1, v2] s') : wpAny (model prog w) A (unpackItems (.ref x) 2 none) Q E s := by
  refine wpAny_unpackItems_tuple (items := #[v1, v2]) hh hx fun h' he => ?_
  exact hQ _ (Kp.keeps (tk := s.toks) fun (b : Nat) o hb => he b o (Nat.ne_of_lt (get_lt (s := s) hb)) hb)

theorem new_tuple2 {v1 v2 : Value} {Q : Value → Shared → Prop} (hQ : ∀ s' x, Kp No No s s' → x = s.heap.objs.size → s'.heap.IsTuple x #[v1, v2] → Q (.ref x) s') : wpAny (model prog w) A (newTuple [v1, v2]) Q E s := by
  refine wpAny_newObj_type (hQ _ _ (Kp.push (tk := s.toks)) rfl ⟨_, Heap.get?_push_size _ rfl, rfl, 0, rfl⟩) ?_
  show 2 ≤ sizeLine
  rw [sizeLine_eq]; omega

theorem law_s2 {a : Int} {ta : Tok} {vm : Option Value} (ca : At s (L + 1) (CellO (some (.int a ta)))) (cm : At s (L + 3) (CellO vm)) {Q : Flow → Shared → Prop}
    (hQ : ∀ s' (m : Nat) tm, 2 ≤ m → m ≤ 7 → Kp (fun x => x = L + 3) No s s' → At s' (L + 3) (CellO (some (.int (m : Nat) tm))) → Q .next s') :
    wpAny (model prog w) A (exec (lawStmt w.params 1) (envLaw w.params L fa cd)) Q E s := by
  refine wpAny_Assign_Name ?_
  refine wpAny_BinOp ?_
  refine ev_int fun s1 t1 e1 => ?_
  refine wpAny_BinOp ?_
  refine ev_cell (ca.kp e1 id) ?_
  refine ev_int fun s2 t2 e2 => ?_
  refine op_mod (by decide) fun s3 t3 e3 => ?_
  refine op_add fun s4 t4 e4 => ?_
  obtain ⟨k, hk, hk6⟩ := fmod_lt (x := a) (m := 6) (by decide)
  have hv : (2 : Int) + a.fmod 6 = ((2 + k : Nat) : Int) := by
    have : a.fmod 6 = (k : Int) := hk
    rw [this]; omega
  rw [hv]
  have e := ((e1.trans e2).trans e3).trans e4
  refine st_cell (cm.kp e id) fun s5 e5 m5 => ?_
  exact hQ s5 (2 + k) t4 (by omega) (by omega) ((kp_no e).trans e5) m5

/-- the items, in their drawn order -/
def itemAt (m : Nat) (b : Int) (up : Bool) (k : Nat) : Nat := ((b + (if up then (k : Int) else -(k : Int))).fmod (m : Int)).toNat

theorem itemAt_lt {m : Nat} (hm : 0 < m) (b : Int) (up : Bool) (k : Nat) : itemAt m b up k < m := by
  obtain ⟨j, hj, hlt⟩ := fmod_lt (x := b + (if up then (k : Int) else -(k : Int))) hm
  unfold itemAt
  omega

theorem itemAt_onto {m : Nat} (hm : 0 < m) (b : Int) (up : Bool) {x : Nat} (hx : x < m) : ∃ k, k < m ∧ itemAt m b up k = x := by
  have hm0 : (m : Int) ≠ 0 := by omega
  have hxm : (x : Int) % (m : Int) = x := Int.emod_eq_of_lt (by omega) (by omega)
  cases up with
  | true =>
    refine ⟨(((x : Int) - b) % (m : Int)).toNat, ?_, ?_⟩
    · have := Int.emod_nonneg ((x : Int) - b) hm0
      have := Int.emod_lt_of_pos ((x : Int) - b) (show 0 < (m : Int) by omega)
      omega
    · unfold itemAt
      simp only [if_true]
      have h0 := Int.emod_nonneg ((x : Int) - b) hm0
      rw [Int.toNat_of_nonneg h0, Int.fmod_eq_emod_of_nonneg _ (by omega)]
      have : (b + ((x : Int) - b) % (m : Int)) % (m : Int) = x := by
        rw [Int.emod_def ((x : Int) - b)]
        rw [show b + ((x : Int) - b - (m : Int) * (((x : Int) - b) / (m : Int))) = (x : Int) + (m : Int) * (-(((x : Int) - b) / (m : Int))) by rw [Int.mul_neg]; omega]
        rw [Int.add_mul_emod_self_left]; exact hxm
      omega
  | false =>
    refine ⟨((b - (x : Int)) % (m : Int)).toNat, ?_, ?_⟩
    · have := Int.emod_nonneg (b - (x : Int)) hm0
      have := Int.emod_lt_of_pos (b - (x : Int)) (show 0 < (m : Int) by omega)
      omega
    · unfold itemAt
      simp only [Bool.false_eq_true, if_false]
      have h0 := Int.emod_nonneg (b - (x : Int)) hm0
      rw [Int.toNat_of_nonneg h0, Int.fmod_eq_emod_of_nonneg _ (by omega)]
      have : (b + -((b - (x : Int)) % (m : Int))) % (m : Int) = x := by
        rw [Int.emod_def (b - (x : Int))]
        rw [show b + -(b - (x : Int) - (m : Int) * ((b - (x : Int)) / (m : Int))) = (x : Int) + (m : Int) * ((b - (x : Int)) / (m : Int)) by omega]
        rw [Int.add_mul_emod_self_left]; exact hxm
      omega

theorem law_s3 (hh : A.handled = none) (B : Bs w s.heap) {a b : Int} {ta tb tm : Tok} {m : Nat} {vi vp : Option Value} (hm : 2 ≤ m) (hm7 : m ≤ 7) (ca : At s (L + 1) (CellO (some (.int a ta)))) (cb : At s (L + 2) (CellO (some (.int b tb)))) (cm : At s (L + 3) (CellO (some (.int (m : Nat) tm))))
    (ci : At s (L + 4) (CellO vi)) (cp : At s (L + 5) (CellO vp)) {Q : Flow → Shared → Prop}
    (hQ : ∀ s' (I P : Nat) vs ns, Kp (fun x => x = L + 4 ∨ x = L + 5) No s s' → At s' (L + 4) (CellO (some (.ref I))) → At s' (L + 5) (CellO (some (.ref P))) → Above s I → Above s P → I ≠ P → At s' I (ListO vs) → NatsAre vs ns → At s' P (ListO []) →
      (∀ x, x < m → x ∈ ns) → (∀ x ∈ ns, x < m) → ns.length = m → Q .next s') :
    wpAny (model prog w) A (exec (lawStmt w.params 2) (envLaw w.params L fa cd)) Q E s := by
  refine PyProof.Rows.Assign_Tuple ?_
  refine Tuple_ ?_
  refine spliced_cons ?_
  refine comp_nats_range (cl := [(Str.ofString "many", L + 3), (Str.ofString "b", L + 2), (Str.ofString "a", L + 1)]) (n := m) (itemAt m b (((a.fdiv 6).fmod 2) == 0)) (by omega) hh rfl rfl (by decide) (by decide) (fun _ => rfl) (fun _ => rfl) (fun _ => rfl) (fun Q hq => ?_) (fun C i t s1 hi e1 l1 hC => ?_) (fun s1 I vs e1 hI i1 hvs => ?_)
  · refine Call_ ?_
    refine ev_builtin B boot_range ?_
    refine PyProof.Rows.callWith_type1 ?_
    refine spliced_cons ?_
    refine ev_cell cm ?_
    refine spliced_nil ?_
    exact iter_range (by omega) hq
  · refine wpAny_BinOp ?_
    refine wpAny_BinOp ?_
    refine ev_cell (cb.kp e1 id) ?_
    refine IfExp_ ?_
    refine wpAny_isTrue_Compare1 ?_
    refine wpAny_BinOp ?_
    refine wpAny_BinOp ?_
    refine ev_cell (ca.kp e1 id) ?_
    refine ev_int fun s2 t2 e2 => ?_
    refine op_fdiv (by decide) (by decide) fun s3 t3 e3 => ?_
    refine ev_int fun s4 t4 e4 => ?_
    refine op_mod (by decide) fun s5 t5 e5 => ?_
    refine ev_int fun s6 t6 e6 => ?_
    refine PyProof.Rows.eq_int ?_
    refine wpAny_truthy_bool ?_
    have e16 := ((((e2.trans e3).trans e4).trans e5).trans e6)
    have l6 := l1.kp e16 id
    have fin : ∀ (x : Int) t s7 (Q : Value → Shared → Prop), (∀ s' t', Kp No No s7 s' → Q (.int (b + x) t') s') → wpAny (model prog w) A (binaryOp .Add (.int b tb) (.int x t)) Q noE s7 := fun x t s7 Q h => op_add h
    have hm0 : (m : Int) ≠ 0 := by omega
    have hval : ∀ up : Bool, (b + (if up then (i : Int) else -(i : Int))).fmod (m : Int) = ((itemAt m b up i : Nat) : Int) := fun up => by
      obtain ⟨j, hj, hlt⟩ := fmod_lt (x := b + (if up then (i : Int) else -(i : Int))) (m := m) (by omega)
      unfold itemAt
      rw [hj]; rfl
    by_cases hσ : ((a.fdiv 6).fmod 2 == 0) = true
    · rw [if_pos hσ]
      refine ev_local l6 (.head _) ?_
      refine fin _ _ _ _ fun s7 t7 e7 => ?_
      refine ev_cell (((cm.kp e1 id).kp e16 id).kp e7 id) ?_
      refine op_mod hm0 fun s8 t8 e8 => ?_
      have := hval true
      simp only [if_true] at this
      rw [this, hσ]
      exact ⟨⟨t8, rfl⟩, (e16.trans e7).trans e8⟩
    · rw [if_neg hσ]
      have hσ' : ((a.fdiv 6).fmod 2 == 0) = false := by simpa using hσ
      refine UnaryOp_ ?_
      refine ev_local l6 (.head _) ?_
      refine op_neg fun s6' t6' e6' => ?_
      refine fin _ _ _ _ fun s7 t7 e7 => ?_
      refine ev_cell ((((cm.kp e1 id).kp e16 id).kp e6' id).kp e7 id) ?_
      refine op_mod hm0 fun s8 t8 e8 => ?_
      have := hval false
      simp only [Bool.false_eq_true, if_false] at this
      rw [this, hσ']
      exact ⟨⟨t8, rfl⟩, ((e16.trans e6').trans e7).trans e8⟩
  · refine spliced_cons ?_
    refine List_ ?_
    refine spliced_nil ?_
    refine new_list (by simp) fun s2 Z e2 hZ z2 => ?_
    refine spliced_nil ?_
    refine new_tuple2 fun s3 x e3 hx x3 => ?_
    have ltI := i1.lt
    refine assign_names2 (unpack2_tuple hh x3 fun s4 e4 => ⟨_, _, rfl, ?_⟩)
    have e14 := (e2.trans e3).trans e4
    have e04 := e1.trans e14
    refine st_cell (ci.kp e04 id) fun s5 e5 i5 => ?_
    refine st_cell ((cp.kp e04 id).kp e5 (by omega)) fun s6 e6 p6 => ?_
    have hci := ci.lt; have hcp := cp.lt
    have hZs : Above s Z := fun (b : Nat) o g => by rw [hZ]; exact get_lt (e1.keep b o id g)
    have hI4 : I ≠ L + 4 ∧ I ≠ L + 5 := ⟨fun h => by have := ci.above hI; omega, fun h => by have := cp.above hI; omega⟩
    have hZ4 : Z ≠ L + 4 ∧ Z ≠ L + 5 := ⟨fun h => by have := ci.above hZs; omega, fun h => by have := cp.above hZs; omega⟩
    refine hQ s6 I Z vs _ ?_ (i5.kp e6 (by omega)) p6 hI hZs ?_ (((i1.kp e14 id).kp e5 hI4.1).kp e6 hI4.2) hvs ((((z2.kp e3 id).kp e4 id).kp e5 hZ4.1).kp e6 hZ4.2) ?_ ?_ ?_
    · exact ((kp_no e04).trans (e5.mono (fun b _ _ h => .inl h) fun _ _ h => h)).trans (e6.mono (fun b _ _ h => .inr h) fun _ _ h => h)
    · intro h; rw [hZ] at h; subst h; exact Nat.lt_irrefl _ ltI
    · intro x hx
      obtain ⟨k, hk, he⟩ := itemAt_onto (m := m) (by omega) b ((a.fdiv 6).fmod 2 == 0) hx
      exact List.mem_map.mpr ⟨k, List.mem_range.mpr hk, he⟩
    · intro x hx
      obtain ⟨k, _, rfl⟩ := List.mem_map.mp hx
      exact itemAt_lt (by omega) _ _ _
    · simp
end
end Mine
end Law2Part

section Law3Part
open PySem PySem.W PyProof.Rows PySem.Calls
namespace Mine

structure PairJ (s0 : Shared) (L P : Nat) (m : Nat) (it i : Nat) (s1 : Shared) : Prop where
  vars : At s1 L (VarsO [])
  kp : Kp (fun b => b = L ∨ b = P ∨ b = it) No s0 s1
  prs : ∃ vs ps, At s1 P (ListO vs) ∧ PL s1 (fun b => Out s0 b ∧ b ≠ it) vs ps ∧ ps.length ≤ i ∧ ∀ p ∈ ps, p.1 < p.2 ∧ p.2 < m

section
variable {prog : Program} {w : World} {A : Around} {E : Value → Shared → Prop} {s : Shared} {L fa : Nat} {cd : Value}

theorem op_min {a b : Int} {t u : Tok} (hh : A.handled = none) {Q : Value → Shared → Prop} (hQ : ∀ s' t, Kp No No s s' → Q (.int (if b < a then b else a) t) s') : wpAny (model prog w) A (call (.builtin "min") [.int a t, .int b u]) Q E s := by
  refine min_two_ints hh fun h' tk hk => ?_
  have := hQ { s with heap := h', toks := tk }
  by_cases hc : b < a
  · rw [if_pos hc] at this ⊢; exact this u (Kp.keeps hk)
  · rw [if_neg hc] at this ⊢; exact this t (Kp.keeps hk)
theorem op_max {a b : Int} {t u : Tok} (hh : A.handled = none) {Q : Value → Shared → Prop} (hQ : ∀ s' t, Kp No No s s' → Q (.int (if b > a then b else a) t) s') : wpAny (model prog w) A (call (.builtin "max") [.int a t, .int b u]) Q E s := by
  refine max_two_ints hh fun h' tk hk => ?_
  have := hQ { s with heap := h', toks := tk }
  by_cases hc : b > a
  · rw [if_pos hc] at this ⊢; exact this u (Kp.keeps hk)
  · rw [if_neg hc] at this ⊢; exact this t (Kp.keeps hk)

theorem op_len {l : Nat} {vs : List Value} (hl : At s l (SeqO vs)) (hsz : vs.length ≤ 1000) {Q : Value → Shared → Prop} (hQ : ∀ s' t, Kp No No s s' → Q (.int (vs.length : Nat) t) s') : wpAny (model prog w) A (call (.builtin "len") [.ref l]) Q E s := by
  refine call_len_list (seq_isList hl) (by rw [List.size_toArray]; omega) ?_
  have : ((vs.toArray.size : Nat) : Int) = (vs.length : Nat) := by simp
  rw [this]
  exact hQ _ _ (Kp.toks (tk := s.toks + 1 + 1))

/-- the pairs' statement: its list -/
theorem pairs_list (hh : A.handled = none) (B : Bs w s.heap) {S : Nat} {vs : List Value} {ns : List Int} (hL : At s L (VarsO [(Str.ofString "script", .ref S)])) (hS : At s S (SeqO vs)) (hi : IntsAre vs ns) (hlen : vs.length ≤ 63) {Q : Value → Shared → Prop}
    (hQ : ∀ s' D ws ms, Kp No No s s' → Above s D → At s' D (ListO ws) → IntsAre ws ms → ws.length ≤ 70 → Q (.ref D) s') :
    wpAny (model prog w) A (eval (match lawStmt w.params 3 with | .For _ i _ _ _ => i | _ => .Name ⟨#[]⟩ ⟨0, 0, 0, 0⟩) (envLaw w.params L fa cd)) Q E s := by
  refine ev_slice ?_
  refine wpAny_BinOp ?_
  refine ev_slice ?_
  refine ev_local hL (.head _) ?_
  refine ev_int fun s1 t1 e1 => ?_
  refine ev_int fun s2 t2 e2 => ?_
  have e02 := e1.trans e2
  refine ⟨S, vs, some 2, some 14, rfl, hS.kp e02 id, .int 2 _, .int 14 _, by omega, fun s3 D e3 hD d3 => ?_⟩
  have hd1 : IntsAre (List.take ((some (14 : Int)).elim vs.length (clipAt vs.length) - (some (2 : Int)).elim 0 (clipAt vs.length)) (List.drop ((some (2 : Int)).elim 0 (clipAt vs.length)) vs)) _ := (hi.drop _).take _
  generalize hw1 : List.take ((some (14 : Int)).elim vs.length (clipAt vs.length) - (some (2 : Int)).elim 0 (clipAt vs.length)) (List.drop ((some (2 : Int)).elim 0 (clipAt vs.length)) vs) = w1 at d3 hd1
  have hw1l : w1.length ≤ 63 := by rw [← hw1]; simp; omega
  refine List_ ?_
  refine spliced_cons ?_
  refine ev_int fun s4 t4 e4 => ?_
  refine spliced_cons ?_
  refine ev_int fun s5 t5 e5 => ?_
  refine spliced_cons ?_
  refine ev_int fun s6 t6 e6 => ?_
  refine spliced_nil ?_
  refine new_list (by simp) fun s7 Z e7 hZ z7 => ?_
  have e37 := ((e4.trans e5).trans e6).trans e7
  refine add_lists' (d3.kp e37 id) z7 (by simp; omega) fun s8 Y e8 hY y8 => ?_
  have hall : IntsAre (w1 ++ [.int 1 t4, .int 8 t5, .int 3 t6]) _ := hd1.append (IntsAre.cons 1 t4 (IntsAre.cons 8 t5 (IntsAre.cons 3 t6 IntsAre.nil)))
  generalize hw2 : w1 ++ [Value.int 1 t4, .int 8 t5, .int 3 t6] = w2 at y8 hall
  have hw2l : w2.length ≤ 70 := by rw [← hw2]; simp; omega
  refine wpAny_pure ?_
  have e08 : Kp No No s s8 := ((e02.trans e3).trans e37).trans e8
  have B8 := B.kp e08 (fun _ h => h.elim)
  show wpAny _ _ (eval (.Call _ _ _ _) _) _ _ s8
  refine Call_ ?_
  refine ev_builtin B8 boot_max ?_
  refine PyProof.Rows.callWith_builtin1 ?_
  refine spliced_cons ?_
  refine ev_int fun s9 t9 e9 => ?_
  refine spliced_cons ?_
  refine Call_ ?_
  have B9 := B8.kp e9 (fun _ h => h.elim)
  refine ev_builtin B9 boot_len ?_
  refine PyProof.Rows.callWith_builtin1 ?_
  refine spliced_cons ?_
  refine ev_slice ?_
  have e09 := e08.trans e9
  refine ev_local (hL.kp e09 id) (.head _) ?_
  refine ev_int fun s10 t10 e10 => ?_
  refine ev_int fun s11 t11 e11 => ?_
  have e011 := (e09.trans e10).trans e11
  refine ⟨S, vs, some 2, some 14, rfl, hS.kp e011 id, .int 2 _, .int 14 _, by omega, fun s12 D2 e12 hD2 d12 => ?_⟩
  rw [hw1] at d12
  refine spliced_nil ?_
  refine op_len (d12.imp fun o ho => ListO.seq ho) (by omega) fun s13 t13 e13 => ?_
  refine spliced_nil ?_
  refine op_max hh fun s14 t14 e14 => ?_
  have e814 := (((((e9.trans e10).trans e11).trans e12).trans e13).trans e14)
  refine ⟨Y, w2, none, some _, rfl, (y8.kp e814 id).imp fun o ho => ListO.seq ho, .none, .int _ _, by omega, fun s15 F e15 hF f15 => ?_⟩
  have e014 := e08.trans e814
  refine hQ s15 F _ _ (e014.trans e15) (hF.kp e014) f15 ((hall.drop _).take _) ?_
  simp; omega
end
end Mine
end Law3Part

section Law4Part
open PySem PySem.W PyProof.Rows PySem.Calls
namespace Mine

section
variable {prog : Program} {w : World} {A : Around} {E : Value → Shared → Prop} {s : Shared} {L fa : Nat} {cd : Value}

set_option maxHeartbeats 2000000 in
theorem law_s4 (hh : A.handled = none) (B : Bs w s.heap) (hu : A.units + 10 < cLine) {S m P : Nat} {tm : Tok} {vs : List Value} {ns : List Int} (hm : 2 ≤ m) (hm7 : m ≤ 7) (hL : At s L (VarsO [(Str.ofString "script", .ref S)])) (hS : At s S (SeqO vs)) (hi : IntsAre vs ns) (hlen : vs.length ≤ 63)
    (cm : At s (L + 3) (CellO (some (.int (m : Nat) tm)))) (cp : At s (L + 5) (CellO (some (.ref P)))) (hP : At s P (ListO [])) (h88 : 88 ≤ L ∧ 88 ≤ P) (hPL : P ≠ L ∧ P ≠ L + 3 ∧ P ≠ L + 5) {Q : Flow → Shared → Prop}
    (hQ : ∀ s' vs ps, Kp (fun b => b = L ∨ b = P) No s s' → At s' L (VarsO []) → At s' P (ListO vs) → PL s' (fun b => Out s b) vs ps → ps.length ≤ 70 → (∀ p ∈ ps, p.1 < p.2 ∧ p.2 < m) → Q .next s') :
    wpAny (model prog w) A (exec (lawStmt w.params 3) (envLaw w.params L fa cd)) Q E s := by
  refine wpAny_For ?_
  refine pairs_list hh B hL hS hi hlen fun s1 D ws ms e1 hD d1 hms hwl => ?_
  have ltL := (hL.kp e1 id).lt; have ltM := (cm.kp e1 id).lt; have ltP := (hP.kp e1 id).lt; have ltC := (cp.kp e1 id).lt; have ltD := d1.lt
  have aL := hL.above hD; have aM := cm.above hD; have aP := hP.above hD; have aC := cp.above hD
  refine loop_list hh d1 (PairJ s1 L P m) (fun it s2 hit e2 => ?_) (fun it i s2 s3 hit J e => ?_) (fun it i s2 hit J => ?_) (fun it i s2 v hit hiv hv J hi2 => ?_) (fun it s2 hit J => ?_)
  · exact ⟨vars_sub ((hL.kp e1 id).kp e2 id) (by simp), kp_no e2, [], [], (hP.kp e1 id).kp e2 id, by simp [PL], by simp, by simp⟩
  · obtain ⟨j1, j2, vs', ps, j3, j4, j5, j6⟩ := J
    exact ⟨j1.kp e (by omega), j2.trans (e.mono (fun b _ _ h => .inr (.inr h)) fun _ _ h => h), vs', ps, j3.kp e (by omega), j4.kp e (fun b hb h => h.2 hb), j5, j6⟩
  · exact d1.kp J.kp (by omega)
  · obtain ⟨j1, j2, vs', ps, j3, j4, j5, j6⟩ := J
    have hint : ∃ x t, v = .int x t := by
      exact PyProof.Rows.IntsAre.all hms v (List.mem_of_getElem? hv)
    obtain ⟨x, t, rfl⟩ := hint
    refine owned_name ?_
    refine wpAny_assign_Name ?_
    refine st_local [] j1 (by simp) fun s3 e3 l3 => ?_
    have k3 : Kp (fun b => b = L ∨ b = P ∨ b = it) No s1 s3 := j2.trans (e3.mono (fun b _ _ h => .inl h) fun _ _ h => h)
    have B3 : Bs w s3.heap := (B.kp e1 (fun _ h => h.elim)).kp k3 (fun b hb => by have := B.size; have := get_lt (s := s1) (d1.choose_spec.1); omega)
    have cm3 := (cm.kp e1 id).kp k3 (by omega)
    have hm0 : (m : Int) ≠ 0 := by omega
    refine wpAny_execs_cons ?_
    refine PyProof.Rows.Assign_Tuple_swapped ?_
    refine Tuple_ ?_
    refine spliced_cons ?_
    refine Call_ ?_
    refine ev_builtin B3 boot_min ?_
    refine PyProof.Rows.callWith_builtin1 ?_
    refine spliced_cons ?_
    refine wpAny_BinOp ?_
    refine ev_local l3 (.head _) ?_
    refine ev_cell cm3 ?_
    refine op_mod hm0 fun s4 t4 e4 => ?_
    refine spliced_cons ?_
    refine wpAny_BinOp ?_
    refine wpAny_BinOp ?_
    refine ev_local (l3.kp e4 id) (.head _) ?_
    refine ev_cell (cm3.kp e4 id) ?_
    refine op_fdiv hm0 (by omega) fun s5 t5 e5 => ?_
    have e35 := e4.trans e5
    refine ev_cell (cm3.kp e35 id) ?_
    refine op_mod hm0 fun s6 t6 e6 => ?_
    refine spliced_nil ?_
    refine op_min hh fun s7 t7 e7 => ?_
    have e37 := (e35.trans e6).trans e7
    refine spliced_cons ?_
    refine Call_ ?_
    refine ev_builtin (B3.kp e37 (fun _ h => h.elim)) boot_max ?_
    refine PyProof.Rows.callWith_builtin1 ?_
    refine spliced_cons ?_
    refine wpAny_BinOp ?_
    refine ev_local (l3.kp e37 id) (.head _) ?_
    refine ev_cell (cm3.kp e37 id) ?_
    refine op_mod hm0 fun s8 t8 e8 => ?_
    refine spliced_cons ?_
    refine wpAny_BinOp ?_
    refine wpAny_BinOp ?_
    have e38 := e37.trans e8
    refine ev_local (l3.kp e38 id) (.head _) ?_
    refine ev_cell (cm3.kp e38 id) ?_
    refine op_fdiv hm0 (by omega) fun s9 t9 e9 => ?_
    have e39 := e38.trans e9
    refine ev_cell (cm3.kp e39 id) ?_
    refine op_mod hm0 fun s10 t10 e10 => ?_
    refine spliced_nil ?_
    refine op_max hh fun s11 t11 e11 => ?_
    refine spliced_nil ?_
    have e311 := (e39.trans e10).trans e11
    obtain ⟨p, hp, hpm⟩ := fmod_lt (x := x) (m := m) (by omega)
    obtain ⟨q, hq, hqm⟩ := fmod_lt (x := x.fdiv (m : Int)) (m := m) (by omega)
    rw [hp, hq]
    have hmin : (if (q : Int) < (p : Int) then (q : Int) else (p : Int)) = ((min p q : Nat) : Int) := by split <;> omega
    have hmax : (if (q : Int) > (p : Int) then (q : Int) else (p : Int)) = ((max p q : Nat) : Int) := by split <;> omega
    rw [hmin, hmax]
    refine new_tuple2 fun s12 X e12 hX x12 => ?_
    refine unpack2_tuple hh x12 fun s13 e13 => ?_
    have e313 := (e311.trans e12).trans e13
    refine wpAny_bind (wpAny_holding (bindName_ ?_))
    refine st_local [] (l3.kp e313 id) (by simp) fun s14 e14 l14 => ?_
    refine wpAny_bind (wpAny_holding (bindName_ ?_))
    refine st_local [(Str.ofString "other", .int ((max p q : Nat) : Int) t11)] l14 (by simp (decide := true)) fun s15 e15 l15 => ?_
    refine wpAny_pure ?_
    show wpAny _ _ (execs _ _) _ _ s15
    have k15 : Kp (fun b => b = L ∨ b = P ∨ b = it) No s1 s15 := ((k3.trans (kp_no e313)).trans (e14.mono (fun b _ _ h => .inl h) fun _ _ h => h)).trans (e15.mono (fun b _ _ h => .inl h) fun _ _ h => h)
    have pl15 : PL s15 (fun b => Out s1 b ∧ b ≠ it) vs' ps := (((j4.kp e3 (fun b hb h => by subst hb; obtain ⟨o, ho⟩ := (hL.kp e1 id).live; rw [show s1.heap.get? b = none from h.1] at ho; cases ho)).kp e313 (fun _ h => h.elim)).kp e14 (fun b hb h => by subst hb; obtain ⟨o, ho⟩ := (hL.kp e1 id).live; rw [show s1.heap.get? b = none from h.1] at ho; cases ho)).kp e15 (fun b hb h => by subst hb; obtain ⟨o, ho⟩ := (hL.kp e1 id).live; rw [show s1.heap.get? b = none from h.1] at ho; cases ho)
    have P15 : At s15 P (ListO vs') := (((j3.kp e3 (by omega)).kp e313 id).kp e14 (by omega)).kp e15 (by omega)
    have i15 : At s15 it (IterO D (i + 1)) := (((hi2.kp e3 (by omega)).kp e313 id).kp e14 (by omega)).kp e15 (by omega)
    have cp15 := (cp.kp e1 id).kp k15 (by omega)
    have hvl : vs'.length ≤ 1000 := by rw [j4.1]; omega
    have ltL15 := l15.lt; have ltP15 := P15.lt; have ltit15 := i15.lt
    refine wpAny_execs_cons ?_
    refine wpAny_If ?_
    refine isTrue_and ?_
    refine wpAny_isTrue_Compare1 ?_
    refine ev_local l15 (.head _) ?_
    refine ev_local l15 (.tail _ (.head _)) ?_
    refine PyProof.Rows.ne_int ?_
    refine wpAny_truthy_bool ?_
    have same : PairJ s1 L P m it (i + 1) s15 ∧ At s15 it (IterO D (i + 1)) := ⟨⟨vars_sub l15 (by simp), k15, vs', ps, P15, pl15, by omega, j6⟩, i15⟩
    by_cases hpq : min p q = max p q
    · rw [if_neg (by simp [hpq])]
      rw [if_neg Bool.false_ne_true]
      exact wpAny_execs_nil (wpAny_execs_nil same)
    · rw [if_pos (by simp; omega)]
      refine isTrue_and ?_
      refine wpAny_isTrue_Compare1 ?_
      refine Tuple_ ?_
      refine spliced_cons ?_
      refine ev_local l15 (.head _) ?_
      refine spliced_cons ?_
      refine ev_local l15 (.tail _ (.head _)) ?_
      refine spliced_nil ?_
      refine new_pair fun s16 Y e16 hY y16 => ?_
      refine ev_cell (cp15.kp e16 id) ?_
      have pr16 := (pl15.kp e16 (fun _ h => h.elim)).toR (P15.kp e16 id)
      have hYn : ¬ prR P vs' Y := fun h => by
        rcases (pl15.kp e16 (fun _ h => h.elim)).at h with h | ⟨h, _⟩
        · omega
        · obtain ⟨ii, hii⟩ := (show ∃ i : Nat, vs'[i]? = some (.ref Y) from by rcases ‹prR P vs' Y› with h' | h'; exact absurd h' (by omega); exact h')
          have hil : ii < ps.length := by rw [← pl15.1]; exact (List.getElem?_eq_some_iff.mp hii).1
          obtain ⟨q', h1, h2, _⟩ := pl15.2 ii hil
          rw [h1] at hii
          injection hii with hii; injection hii with hii
          exact absurd h2.lt (by rw [show q' = Y from hii, hY]; exact Nat.lt_irrefl _)
      refine pair_notin pr16 y16 hYn (by omega) ?_
      refine wpAny_truthy_bool ?_
      by_cases hin : ps.contains (min p q, max p q) = true
      · rw [hin]
        rw [if_neg (by simp)]
        rw [if_neg Bool.false_ne_true]
        refine wpAny_execs_nil (wpAny_execs_nil ?_)
        exact ⟨⟨vars_sub (l15.kp e16 id) (by simp), k15.trans (kp_no e16), vs', ps, P15.kp e16 id, pl15.kp e16 (fun _ h => h.elim), by omega, j6⟩, i15.kp e16 id⟩
      · have hin' : ps.contains (min p q, max p q) = false := by simpa using hin
        rw [hin']
        rw [if_pos (by simp)]
        refine isTrue_and_nil ?_
        rw [if_pos rfl]
        refine wpAny_execs_cons ?_
        refine wpAny_Expr_any ?_ rfl rfl
        refine wpAny_Call_method rfl rfl rfl F.plainAttrs_list F.slot_list_append F.type_list_append ?_
        refine ev_cell (cp15.kp e16 id) ?_
        refine ⟨listO_typeIs (P15.kp e16 id), listO_noDict (P15.kp e16 id), ?_⟩
        refine PyProof.Rows.callWith_method1 ?_
        refine spliced_cons ?_
        refine Tuple_ (k := 0) ?_
        refine spliced_cons ?_
        refine ev_local (l15.kp e16 id) (.head _) ?_
        refine spliced_cons ?_
        refine ev_local (l15.kp e16 id) (.tail _ (.head _)) ?_
        refine spliced_nil ?_
        refine new_pair fun s17 Z e17 hZ z17 => ?_
        refine spliced_nil ?_
        refine call_append ((P15.kp e16 id).kp e17 id) hvl fun s18 e18 o18 => ?_
        refine wpAny_execs_nil (wpAny_execs_nil ?_)
        have ltP16 := (P15.kp e16 id).lt; have ltit16 := (i15.kp e16 id).lt
        have hZs : Out s1 Z := by
          show s1.heap.get? Z = none
          cases hz : s1.heap.get? Z with
          | none => rfl
          | some o =>
            exfalso
            have hzl := get_lt hz
            have h1 : Z = L ∨ Z = P ∨ Z = it ∨ ¬ (Z = L ∨ Z = P ∨ Z = it) := by omega
            have ltL16 := (l15.kp e16 id).lt
            rcases h1 with h | h | h | h
            · omega
            · omega
            · omega
            · have := get_lt (e16.keep Z o id (k15.keep Z o h hz)); omega
        refine ⟨⟨(vars_sub ((l15.kp e16 id).kp e17 id) (by simp)).kp e18 (by omega), ((k15.trans (kp_no e16)).trans (kp_no e17)).trans (e18.mono (fun b _ _ h => .inr (.inl h)) fun _ _ h => h), _, ps ++ [(min p q, max p q)], o18, ?_, by simp; omega, ?_⟩, ((i15.kp e16 id).kp e17 id).kp e18 (by omega)⟩
        · refine PL.snoc ?_ (z17.kp e18 (by omega)) ⟨hZs, by omega⟩
          refine ((pl15.kp e16 (fun _ h => h.elim)).kp e17 (fun _ h => h.elim)).kp e18 fun b hb h => ?_
          subst hb
          obtain ⟨o, ho⟩ := (hP.kp e1 id).live
          rw [show s1.heap.get? b = none from h.1] at ho; cases ho
        · intro pr hpr
          rcases List.mem_append.mp hpr with h | h
          · exact j6 pr h
          · simp at h; subst h
            exact ⟨by show min p q < max p q; omega, by show max p q < m; omega⟩
  · obtain ⟨j1, j2, vs', ps, j3, j4, j5, j6⟩ := J
    have hk : Kp (fun b => b = L ∨ b = P) No s s2 := kp_new e1 j2 fun (b : Nat) o g h => by
      have := get_lt (e1.keep b o id g)
      rcases h with h | h | h
      · exact .inl h
      · exact .inr h
      · exact absurd h (by omega)
    refine hQ s2 vs' ps hk j1 j3 (j4.imp fun b _ h => Out.kp h.1 e1) (by omega) j6
end
end Mine
end Law4Part

section Law5Part
open PySem PySem.W PyProof.Rows PySem.Calls
namespace Mine

theorem PairsR.mono {s : Shared} {R R' : Nat → Prop} {P : Nat} {ps} (x : PairsR s R P ps) (h : ∀ b, R b → R' b) : PairsR s R' P ps :=
  let ⟨vs, a, b, c, d⟩ := x; ⟨vs, a, h _ b, c, fun i hi => let ⟨y, h1, h2, h3⟩ := d i hi; ⟨y, h _ h1, h2, h3⟩⟩

/-- pairs that rise, below m -/
def Rise (m : Nat) (ps : List (Nat × Nat)) : Prop := ∀ p ∈ ps, p.1 < p.2 ∧ p.2 < m

def hUp (x : Nat) : Nat := 6 - x
def hDn (x : Nat) : Nat := if x < 7 then x else 0
theorem hUp_ok {m ps} (hm : m ≤ 7) (h : Rise m ps) : ∀ q ∈ ps, hUp q.2 < hUp q.1 := fun q hq => by have := h q hq; unfold hUp; omega
theorem hDn_ok {m ps} (hm : m ≤ 7) (h : Rise m ps) : ∀ q ∈ swp ps, hDn q.2 < hDn q.1 := fun q hq => by
  obtain ⟨p, hp, rfl⟩ := List.mem_map.mp hq
  have := h p hp
  unfold hDn
  dsimp only
  rw [if_pos (by omega), if_pos (by omega)]
  exact this.1
theorem hUp_lt (x : Nat) : hUp x < 7 := by unfold hUp; omega
theorem hDn_lt (x : Nat) : hDn x < 7 := by unfold hDn; split <;> omega
theorem lev_up {m ps} (hm : m ≤ 7) (h : Rise m ps) : Lev ps (Lf ps 7) := Lev.of (hUp_ok hm h) fun x => by have := hUp_lt x; omega
theorem lev_dn {m ps} (hm : m ≤ 7) (h : Rise m ps) : Lev (swp ps) (Lf (swp ps) 7) := Lev.of (hDn_ok hm h) fun x => by have := hDn_lt x; omega

/-- the law's state behind its first statements -/
structure LS (s : Shared) (L m P T I : Nat) (ns : List Nat) (ps : List (Nat × Nat)) : Prop where
  cm : ∃ tm, At s (L + 3) (CellO (some (.int (m : Nat) tm)))
  cI : At s (L + 4) (CellO (some (.ref I)))
  cP : At s (L + 5) (CellO (some (.ref P)))
  cT : At s (L + 6) (CellO (some (.ref T)))
  itms : At s I (NatsO ns)
  prs : ∃ vs, At s P (ListO vs) ∧ PL s (fun b => ¬ (L ≤ b ∧ b ≤ L + 8)) vs ps
  trn : ∃ vs, At s T (ListO vs) ∧ PL s (fun b => ¬ (L ≤ b ∧ b ≤ L + 8)) vs (swp ps)
  out : ¬ (L ≤ P ∧ P ≤ L + 8) ∧ ¬ (L ≤ T ∧ T ≤ L + 8) ∧ ¬ (L ≤ I ∧ I ≤ L + 8)

theorem LS.kp {s s' : Shared} {L m P T I ns ps} {Q D : Nat → Prop} (x : LS s L m P T I ns ps) (e : Kp Q D s s') (h : ∀ b, Q b → b = L ∨ b = L + 7 ∨ b = L + 8) : LS s' L m P T I ns ps := by
  have out := x.out
  obtain ⟨tm, cm⟩ := x.cm
  obtain ⟨pv, p1, p2⟩ := x.prs
  obtain ⟨tv, t1, t2⟩ := x.trn
  have no : ∀ b, ¬ (L ≤ b ∧ b ≤ L + 8) → ¬ Q b := fun b hb hq => by have := h b hq; omega
  have nc : ∀ b, b = L + 3 ∨ b = L + 4 ∨ b = L + 5 ∨ b = L + 6 → ¬ Q b := fun b hb hq => by have := h b hq; omega
  exact ⟨⟨tm, cm.kp e (nc _ (by omega))⟩, x.cI.kp e (nc _ (by omega)), x.cP.kp e (nc _ (by omega)), x.cT.kp e (nc _ (by omega)), x.itms.kp e (no _ out.2.2), ⟨pv, p1.kp e (no _ out.1), p2.kp e fun b hb hn => no b hn hb⟩, ⟨tv, t1.kp e (no _ out.2.1), t2.kp e fun b hb hn => no b hn hb⟩, out⟩

section
variable {prog : Program} {w : World} {A : Around} {E : Value → Shared → Prop} {s : Shared} {L fa : Nat} {cd : Value} {m P T I : Nat} {ns : List Nat} {ps : List (Nat × Nat)}

/-- what the sorting functions are given -/
theorem LS.given (x : LS s L m P T I ns ps) (hm : m ≤ 7) (hr : Rise m ps) (hns : ∀ y ∈ ns, y < m) (hl : ns.length = m) : ∃ R : Nat → Prop, Given s R P I ps ns := by
  obtain ⟨vs, h1, h2⟩ := x.prs
  refine ⟨fun b => prR P vs b ∨ b = I, (h2.toR h1).mono fun b => .inl, x.itms, .inr rfl, ?_, fun p hp => by have := hr p hp; omega, fun y hy => by have := hns y hy; omega, by omega, (lev_dn hm hr).acy⟩
  rintro b (hb | rfl)
  · rcases h2.at hb with rfl | ⟨_, h⟩
    · exact h1.live
    · exact h
  · exact x.itms.live

theorem LS.givenT (x : LS s L m P T I ns ps) (hm : m ≤ 7) (hr : Rise m ps) (hns : ∀ y ∈ ns, y < m) (hl : ns.length = m) : ∃ R : Nat → Prop, Given s R T I (swp ps) ns := by
  obtain ⟨vs, h1, h2⟩ := x.trn
  refine ⟨fun b => prR T vs b ∨ b = I, (h2.toR h1).mono fun b => .inl, x.itms, .inr rfl, ?_, fun q hq => ?_, fun y hy => by have := hns y hy; omega, by omega, ?_⟩
  · rintro b (hb | rfl)
    · rcases h2.at hb with rfl | ⟨_, h⟩
      · exact h1.live
      · exact h
    · exact x.itms.live
  · obtain ⟨p, hp, rfl⟩ := List.mem_map.mp hq
    have := hr p hp; dsimp only; omega
  · rw [kvOf_swp, swp_swp]; exact (lev_up hm hr).acy

theorem law_s5 (hh : A.handled = none) {P : Nat} {vs : List Value} (hP : At s P (ListO vs)) {N : Nat → Prop} (hpl : PL s N vs ps) (hlen : ps.length ≤ 900) (cp : At s (L + 5) (CellO (some (.ref P)))) {vt : Option Value} (ct : At s (L + 6) (CellO vt)) {Q : Flow → Shared → Prop}
    (hQ : ∀ s' T ws, Kp (fun b => b = L + 6) No s s' → Above s T → At s' T (ListO ws) → PL s' (fun b => Out s b) ws (swp ps) → At s' (L + 6) (CellO (some (.ref T))) → Q .next s') :
    wpAny (model prog w) A (exec (lawStmt w.params 4) (envLaw w.params L fa cd)) Q E s := by
  refine wpAny_Assign_Name ?_
  refine comp_turned hh hlen rfl (hpl.toR hP) (fun Q hq => ev_cell cp hq) fun s1 T ws e1 hT t1 pl1 => ?_
  have hT6 : T ≠ L + 6 := fun h => by have := ct.above hT; omega
  have hout : ∀ b, Out s b → b ≠ L + 6 := fun b hb h => by
    subst h
    obtain ⟨o, ho⟩ := ct.live
    rw [show s.heap.get? (L + 6) = none from hb] at ho; cases ho
  refine st_cell (ct.kp e1 id) fun s2 e2 t2 => ?_
  exact hQ s2 T ws ((kp_no e1).trans e2) hT (t1.kp e2 hT6) ((pl1.kp e2 fun b hb h => hout b h.1 hb).imp fun b _ h => h.1) t2

/-- [_law_longest(pairs, item) for item in range(many)] -/
theorem law_s6 (hh : A.handled = none) (hroom : A.depth + 20 < recursionLimit) (B : Bs w s.heap) (x : LS s L m P T I ns ps) (hm : 2 ≤ m) (hm7 : m ≤ 7) (hr : Rise m ps) (hlen : ps.length ≤ 900) (hl : ns.length = m) (hns : ∀ y ∈ ns, y < m)
    {v7 v8 : Option Value} (cb : At s (L + 7) (CellO v7)) (ca : At s (L + 8) (CellO v8)) {Q : Flow → Shared → Prop}
    (hQ : ∀ s' (BH AH : Nat) bvs avs, Kp (fun b => b = L + 7 ∨ b = L + 8) No s s' → Above s BH → Above s AH → At s' BH (ListO bvs) → NatsAre bvs ((List.range m).map (Lf ps 7)) → At s' AH (ListO avs) → NatsAre avs ((List.range m).map (Lf (swp ps) 7)) →
      At s' (L + 7) (CellO (some (.ref BH))) → At s' (L + 8) (CellO (some (.ref AH))) → Q .next s') :
    wpAny (model prog w) A (exec (lawStmt w.params 5) (envLaw w.params L fa cd)) Q E s := by
  obtain ⟨R, g⟩ := x.given hm7 hr hns hl
  obtain ⟨R', g'⟩ := x.givenT hm7 hr hns hl
  obtain ⟨tm, cm⟩ := x.cm
  refine PyProof.Rows.Assign_Tuple ?_
  refine Tuple_ ?_
  refine spliced_cons ?_
  refine comp_nats_range (cl := [(Str.ofString "pairs", L + 5)]) (n := m) (Lf ps 7) (by omega) hh rfl rfl (by decide) (by decide) (fun _ => rfl) (fun _ => rfl) (fun _ => rfl) (fun Q hq => ?_) (fun C i t s1 hi e1 l1 hC => ?_) (fun s1 BH bvs e1 hBH b1 hbv => ?_)
  · refine Call_ ?_
    refine ev_builtin B boot_range ?_
    refine PyProof.Rows.callWith_type1 ?_
    refine spliced_cons ?_
    refine ev_cell cm ?_
    refine spliced_nil ?_
    exact iter_range (by omega) hq
  · have B1 := B.kp e1 (fun _ h => h.elim)
    refine Call_ ?_
    refine ev_global B1 (.ref 82) ?_
    refine call_fn (fd := fdOf w.params 82) rfl rfl ?_
    refine spliced_cons ?_
    refine ev_cell (x.cP.kp e1 id) ?_
    refine spliced_cons ?_
    refine ev_local l1 (.head _) ?_
    refine spliced_nil ⟨B1, ?_⟩
    have g1 := g.kp e1 (fun _ h => h.elim)
    exact lon_call (hUp_ok hm7 hr) hlen 7 A s1 i t _ _ (hUp_lt i) hh (by omega) B1 g1.pairs g1.rl fun s2 t2 e2 => ⟨⟨t2, rfl⟩, e2⟩
  · have B1 := B.kp e1 (fun _ h => h.elim)
    refine spliced_cons ?_
    refine comp_nats_range (cl := [(Str.ofString "turned", L + 6)]) (n := m) (Lf (swp ps) 7) (by omega) hh rfl rfl (by decide) (by decide) (fun _ => rfl) (fun _ => rfl) (fun _ => rfl) (fun Q hq => ?_) (fun C i t s2 hi e2 l2 hC => ?_) (fun s2 AH avs e2 hAH a2 hav => ?_)
    · refine Call_ ?_
      refine ev_builtin B1 boot_range ?_
      refine PyProof.Rows.callWith_type1 ?_
      refine spliced_cons ?_
      refine ev_cell (cm.kp e1 id) ?_
      refine spliced_nil ?_
      exact iter_range (by omega) hq
    · have B2 := B1.kp e2 (fun _ h => h.elim)
      refine Call_ ?_
      refine ev_global B2 (.ref 82) ?_
      refine call_fn (fd := fdOf w.params 82) rfl rfl ?_
      refine spliced_cons ?_
      refine ev_cell ((x.cT.kp e1 id).kp e2 id) ?_
      refine spliced_cons ?_
      refine ev_local l2 (.head _) ?_
      refine spliced_nil ⟨B2, ?_⟩
      have g2 := (g'.kp e1 (fun _ h => h.elim)).kp e2 (fun _ h => h.elim)
      exact lon_call (hDn_ok hm7 hr) (by simpa using hlen) 7 A s2 i t _ _ (hDn_lt i) hh (by omega) B2 g2.pairs g2.rl fun s3 t3 e3 => ⟨⟨t3, rfl⟩, e3⟩
    · refine spliced_nil ?_
      refine new_tuple2 fun s3 X e3 hX x3 => ?_
      refine assign_names2 (unpack2_tuple hh x3 fun s4 e4 => ⟨_, _, rfl, ?_⟩)
      have e04 := ((e1.trans e2).trans e3).trans e4
      have hAHs := hAH.kp e1
      have n1 : BH ≠ L + 7 ∧ BH ≠ L + 8 ∧ AH ≠ L + 7 ∧ AH ≠ L + 8 := by
        have a1 := cb.above hBH; have a2 := ca.above hBH; have a3 := cb.above hAHs; have a4 := ca.above hAHs
        omega
      refine st_cell (cb.kp e04 id) fun s5 e5 b5 => ?_
      refine st_cell ((ca.kp e04 id).kp e5 (by omega)) fun s6 e6 a6 => ?_
      refine hQ s6 BH AH bvs avs ?_ hBH hAHs (((((b1.kp e2 id).kp e3 id).kp e4 id).kp e5 n1.1).kp e6 n1.2.1) hbv ((((a2.kp e3 id).kp e4 id).kp e5 n1.2.2.1).kp e6 n1.2.2.2) hav (b5.kp e6 (by omega)) a6
      exact ((kp_no e04).trans (e5.mono (fun b _ _ h => .inl h) fun _ _ h => h)).trans (e6.mono (fun b _ _ h => .inr h) fun _ _ h => h)

/-- longest = max(behind) -/
theorem law_s7 (hh : A.handled = none) (B : Bs w s.heap) {BH : Nat} {bvs : List Value} {av : Nat → Nat} (hm : 2 ≤ m) (hns : ∀ y ∈ ns, y < m) (hon : ∀ y, y < m → y ∈ ns) {l : List (Str × Value)} (hL : At s L (VarsO l)) (hb : At s BH (ListO bvs)) (hbv : NatsAre bvs ((List.range m).map av)) (cb : At s (L + 7) (CellO (some (.ref BH)))) {Q : Flow → Shared → Prop}
    (hQ : ∀ s' t, Kp (fun b => b = L) No s s' → At s' L (VarsO [(Str.ofString "longest", .int (top av ns : Nat) t)]) → Q .next s') :
    wpAny (model prog w) A (exec (lawStmt w.params 6) (envLaw w.params L fa cd)) Q E s := by
  refine wpAny_Assign_Name ?_
  refine Call_ ?_
  refine ev_builtin B boot_max ?_
  refine PyProof.Rows.callWith_builtin1 ?_
  refine spliced_cons ?_
  refine ev_cell cb ?_
  refine spliced_nil ?_
  refine max_nats hh hb hbv (by simp; omega) fun s1 M t e1 hM1 hM2 => ?_
  have hM : M = top av ns := by
    obtain ⟨y, hy, he⟩ := List.mem_map.mp hM1
    have hy := List.mem_range.mp hy
    have h1 := le_top (L := av) (hon y hy)
    rcases maxL_mem (ns.map av) with h | h
    · unfold top at *; omega
    · obtain ⟨z, hz, hze⟩ := List.mem_map.mp h
      have h2 := hM2 (av z) (List.mem_map.mpr ⟨z, List.mem_range.mpr (hns z hz), rfl⟩)
      unfold top at *; omega
  rw [hM]
  refine st_local [] (hL.kp e1 id) (by simp) fun s2 e2 l2 => ?_
  exact hQ s2 t ((kp_no e1).trans e2) l2
end
end Mine
end Law5Part

section Law6Part
open PySem PySem.W PyProof.Rows PySem.Calls
namespace Mine

abbrev upL (ps : List (Nat × Nat)) : Nat → Nat := Lf ps 7
abbrev dnL (ps : List (Nat × Nat)) : Nat → Nat := Lf (swp ps) 7

theorem top_le8 (kv : List (Nat × Nat)) (ns : List Nat) : top (Lf kv 7) ns ≤ 8 := by
  rcases maxL_mem (ns.map (Lf kv 7)) with h | h
  · unfold top; omega
  · obtain ⟨x, _, he⟩ := List.mem_map.mp h
    have := Lf_le kv 7 x
    unfold top; omega

section
variable {prog : Program} {w : World} {A : Around} {E : Value → Shared → Prop} {s : Shared} {L fa : Nat} {cd : Value} {m P T I : Nat} {ns : List Nat} {ps : List (Nat × Nat)}

theorem fronts_peel (hm7 : m ≤ 7) (hr : Rise m ps) (hon : ∀ y, y < m → y ∈ ns) : peel (kvOf true ps) ns.length ns = rowsOf (dnL ps) ns (top (dnL ps) ns) := by
  rw [kvOf_swp]
  refine layers0 (lev_dn hm7 hr) fun q hq _ => ?_
  obtain ⟨p, hp, rfl⟩ := List.mem_map.mp hq
  have := hr p hp
  exact hon _ (by dsimp only; omega)
theorem backs_peel (hm7 : m ≤ 7) (hr : Rise m ps) (hon : ∀ y, y < m → y ∈ ns) : peel (kvOf true (swp ps)) ns.length ns = rowsOf (upL ps) ns (top (upL ps) ns) := by
  rw [kvOf_swp, swp_swp]
  refine layers0 (lev_up hm7 hr) fun q hq _ => ?_
  have := hr q hq
  exact hon _ (by omega)
theorem rows_each {av : Nat → Nat} {n : Nat} {l : List Nat} (h : l ∈ rowsOf av ns n) : l.length ≤ ns.length := by
  obtain ⟨k, _, rfl⟩ := List.mem_map.mp h
  exact List.length_filter_le _ _

theorem nats_frame {o : Obj} {r : List Nat} {l : List (Str × Value)} (h : NatsO r o) (h' : VarsO l o) : False := by
  obtain ⟨vs, ⟨_, _, n, hd⟩, _⟩ := h
  obtain ⟨m, ⟨es, ep, hd', _⟩, _⟩ := h'
  rw [hd] at hd'; cases hd'
theorem Rows.frame {s : Shared} {N : Nat → Prop} {ws rows} {L : Nat} {l : List (Str × Value)} (x : Rows s N ws rows) (hL : At s L (VarsO l)) : Rows s (fun b => b = L) ws rows :=
  ⟨x.1, fun i h => let ⟨O, h1, h2, _⟩ := x.2 i h; ⟨O, h1, h2, h2.ne hL fun o a b => nats_frame a b⟩⟩

set_option maxHeartbeats 1000000 in
theorem law_s8 (hA : Fit 3 A) (B : Bs w s.heap) (x : LS s L m P T I ns ps) (hm7 : m ≤ 7) (hr : Rise m ps) (hl : ns.length = m) (hns : ∀ y ∈ ns, y < m) (hon : ∀ y, y < m → y ∈ ns) {tn : Tok} {n : Nat} (hL : At s L (VarsO [(Str.ofString "longest", .int (n : Nat) tn)])) {Q : Flow → Shared → Prop}
    (hQ : ∀ s' (FR BK : Nat) fws bws, Kp (fun b => b = L) No s s' → At s' L (VarsO [(Str.ofString "front", .ref FR), (Str.ofString "back", .ref BK), (Str.ofString "longest", .int (n : Nat) tn)]) → At s' FR (ListO fws) → At s' BK (ListO bws) →
      Rows s' No fws (rowsOf (dnL ps) ns (top (dnL ps) ns)) → Rows s' No bws (rowsOf (upL ps) ns (top (upL ps) ns)) → Q .next s') :
    wpAny (model prog w) A (exec (lawStmt w.params 7) (envLaw w.params L fa cd)) Q E s := by
  obtain ⟨R, g⟩ := x.given hm7 hr hns hl
  obtain ⟨R', g'⟩ := x.givenT hm7 hr hns hl
  have hh := hA.handled
  have hroom : A.depth < recursionLimit := by have := hA.depth; omega
  have t8 : top (dnL ps) ns ≤ 8 := top_le8 (swp ps) ns
  have t8' : top (upL ps) ns ≤ 8 := top_le8 ps ns
  refine PyProof.Rows.Assign_Tuple_swapped ?_
  refine Tuple_ ?_
  refine spliced_cons ?_
  refine comp_front (cl := []) (d := 3) (R := R) (xs := rowsOf (dnL ps) ns (top (dnL ps) ns)) hA (by simp; omega) (fun l hl' => by have := rows_each hl'; omega) B g.rl rfl rfl (by decide) (by decide) (fun _ => rfl) (fun _ => rfl) (fun _ => rfl) (fun Q hq => ?_) (fun C O s1 Q r l1 hO hr' B1 hq => ?_) (fun s1 FR fws e1 hFR f1 rows1 => ?_)
  · refine Call_ ?_
    refine ev_global B (.ref 57) ?_
    refine call_fn (fd := fdOf w.params 57) rfl rfl ?_
    refine spliced_cons ?_
    refine ev_cell x.cP ?_
    refine spliced_cons ?_
    refine ev_cell x.cI ?_
    refine spliced_nil ⟨B, ?_⟩
    refine sub_make B hroom g fun s' G g0 V e hG hg hV hga => ?_
    rw [fronts_peel hm7 hr hon] at hga
    exact hq s' G g0 V e hG hg hV hga
  · refine Call_ ?_
    refine ev_builtin B1 boot_list ?_
    refine PyProof.Rows.callWith_type1 ?_
    refine spliced_cons ?_
    refine ev_local l1 (.head _) ?_
    refine spliced_nil ?_
    obtain ⟨vs, hOl, hvs⟩ := natsO_list hO
    exact call_list_copy hOl (by rw [hvs.length]; omega) fun s2 D e2 hD d2 => hq s2 D e2 hD (d2.imp fun o ho => ⟨vs, ho, hvs⟩)
  · have B1 := B.kp e1 (fun _ h => h.elim)
    have g1 := g'.kp e1 (fun _ h => h.elim)
    refine spliced_cons ?_
    refine comp_front (cl := []) (d := 3) (R := R') (xs := rowsOf (upL ps) ns (top (upL ps) ns)) hA (by simp; omega) (fun l hl' => by have := rows_each hl'; omega) B1 g1.rl rfl rfl (by decide) (by decide) (fun _ => rfl) (fun _ => rfl) (fun _ => rfl) (fun Q hq => ?_) (fun C O s2 Q r l2 hO hr' B2 hq => ?_) (fun s2 BK bws e2 hBK b2 rows2 => ?_)
    · refine Call_ ?_
      refine ev_global B1 (.ref 57) ?_
      refine call_fn (fd := fdOf w.params 57) rfl rfl ?_
      refine spliced_cons ?_
      refine ev_cell (x.cT.kp e1 id) ?_
      refine spliced_cons ?_
      refine ev_cell (x.cI.kp e1 id) ?_
      refine spliced_nil ⟨B1, ?_⟩
      refine sub_make B1 hroom g1 fun s' G g0 V e hG hg hV hga => ?_
      rw [backs_peel hm7 hr hon] at hga
      exact hq s' G g0 V e hG hg hV hga
    · refine Call_ ?_
      refine ev_builtin B2 boot_list ?_
      refine PyProof.Rows.callWith_type1 ?_
      refine spliced_cons ?_
      refine ev_local l2 (.head _) ?_
      refine spliced_nil ?_
      obtain ⟨vs, hOl, hvs⟩ := natsO_list hO
      exact call_list_copy hOl (by rw [hvs.length]; omega) fun s3 D e3 hD d3 => hq s3 D e3 hD (d3.imp fun o ho => ⟨vs, ho, hvs⟩)
    · refine spliced_nil ?_
      refine new_tuple2 fun s3 X e3 hX x3 => ?_
      refine unpack2_tuple hh x3 fun s4 e4 => ?_
      have e04 := ((e1.trans e2).trans e3).trans e4
      have hBKs := hBK.kp e1
      have nF : FR ≠ L := fun h => by have := hL.above hFR; omega
      have nB : BK ≠ L := fun h => by have := hL.above hBKs; omega
      refine wpAny_bind (wpAny_holding (bindName_ ?_))
      refine st_local [(Str.ofString "longest", .int (n : Nat) tn)] (hL.kp e04 id) (by simp (decide := true)) fun s5 e5 l5 => ?_
      refine wpAny_bind (wpAny_holding (bindName_ ?_))
      refine st_local [(Str.ofString "back", .ref BK), (Str.ofString "longest", .int (n : Nat) tn)] l5 (by simp (decide := true)) fun s6 e6 l6 => ?_
      refine wpAny_pure ?_
      have k6 : Kp (fun b => b = L) No s s6 := ((kp_no e04).trans e5).trans e6
      refine hQ s6 FR BK fws bws k6 l6 (((((f1.kp e2 id).kp e3 id).kp e4 id).kp e5 nF).kp e6 nF) ((((b2.kp e3 id).kp e4 id).kp e5 nB).kp e6 nB) ?_ ?_
      · have r1 : Rows s1 (fun b => b = L) fws (rowsOf (dnL ps) ns (top (dnL ps) ns)) := rows1.frame (hL.kp e1 id)
        have r4 := ((r1.kp e2 (fun _ h => h.elim) (fun _ _ h => h)).kp e3 (fun _ h => h.elim) (fun _ _ h => h)).kp e4 (fun _ h => h.elim) (fun _ _ h => h)
        exact (r4.kp e5 (fun b hb => hb) (fun _ _ h => h)).kp e6 (fun b hb => hb) (fun _ _ h => h.elim)
      · have r2 : Rows s2 (fun b => b = L) bws (rowsOf (upL ps) ns (top (upL ps) ns)) := rows2.frame ((hL.kp e1 id).kp e2 id)
        have r4 := (r2.kp e3 (fun _ h => h.elim) (fun _ _ h => h)).kp e4 (fun _ h => h.elim) (fun _ _ h => h)
        exact (r4.kp e5 (fun b hb => hb) (fun _ _ h => h)).kp e6 (fun b hb => hb) (fun _ _ h => h.elim)
end
end Mine
end Law6Part

section Law7Part
open PySem PySem.W PyProof.Rows PySem.Calls
namespace Mine

abbrev lawL (FR BK n : Nat) (tn : Tok) : List (Str × Value) := [(Str.ofString "front", .ref FR), (Str.ofString "back", .ref BK), (Str.ofString "longest", .int (n : Nat) tn)]

section
variable {prog : Program} {w : World} {A : Around} {E : Value → Shared → Prop} {s : Shared} {L fa : Nat} {cd : Value} {m P T I FR BK : Nat} {ns : List Nat} {ps : List (Nat × Nat)}

theorem tops (hm7 : m ≤ 7) (hr : Rise m ps) (hon : ∀ y, y < m → y ∈ ns) : top (upL ps) ns = top (dnL ps) ns :=
  top_swp (lev_up hm7 hr) (lev_dn hm7 hr) fun q hq => by
    have := hr q hq
    exact ⟨hon _ (by omega), hon _ (by omega)⟩

set_option maxHeartbeats 2000000 in
theorem law_s9 (hh : A.handled = none) (hu : A.units + 10 < cLine) (B : Bs w s.heap) (x : LS s L m P T I ns ps) (hm7 : m ≤ 7) (hr : Rise m ps) (hl : ns.length = m) (hns : ∀ y ∈ ns, y < m) (hon : ∀ y, y < m → y ∈ ns) {tn : Tok}
    (hL : At s L (VarsO (lawL FR BK (top (upL ps) ns) tn))) {BH AH : Nat} {bvs avs fws bws : List Value} (hb : At s BH (ListO bvs)) (hbv : NatsAre bvs ((List.range m).map (upL ps))) (ha : At s AH (ListO avs)) (hav : NatsAre avs ((List.range m).map (dnL ps)))
    (cb : At s (L + 7) (CellO (some (.ref BH)))) (ca : At s (L + 8) (CellO (some (.ref AH)))) (hF : At s FR (ListO fws)) (hB : At s BK (ListO bws))
    (rF : Rows s No fws (rowsOf (dnL ps) ns (top (dnL ps) ns))) (rB : Rows s No bws (rowsOf (upL ps) ns (top (upL ps) ns))) {Q : Flow → Shared → Prop} (hQ : ∀ s', Kp No No s s' → Q .next s') :
    wpAny (model prog w) A (exec (lawStmt w.params 8) (envLaw w.params L fa cd)) Q E s := by
  have t8 : top (upL ps) ns ≤ 8 := top_le8 ps ns
  have ht := tops (ps := ps) hm7 hr hon
  obtain ⟨ivs, hI, hiv⟩ := natsO_list x.itms
  refine wpAny_If ?_
  refine isTrue_or ?_
  refine wpAny_isTrue_Compare1 ?_
  refine ev_local hL (.head _) ?_
  refine comp_rows_ahead (many := m) (av := dnL ps) hh B (by omega) (by omega) (by omega) hL (.tail _ (.tail _ (.head _))) x.cI ca hI hiv ha hav hns fun s1 D ws e1 hD d1 r1 => ?_
  rw [ht] at r1
  refine ne_rows (hF.kp e1 id) d1 (rF.kp e1 (fun _ h => h.elim) (fun _ _ h => h)) r1 (by omega) ?_
  refine wpAny_truthy_bool ?_
  rw [if_neg Bool.false_ne_true]
  have B1 := B.kp e1 (fun _ h => h.elim)
  refine isTrue_or ?_
  refine wpAny_isTrue_Compare1 ?_
  refine ev_local (hL.kp e1 id) (.tail _ (.head _)) ?_
  refine comp_rows_behind (many := m) (av := upL ps) hh B1 (by omega) (by omega) (by omega) (hL.kp e1 id) (.tail _ (.tail _ (.head _))) (x.cI.kp e1 id) (cb.kp e1 id) (hI.kp e1 id) hiv (hb.kp e1 id) hbv hns fun s2 D2 ws2 e2 hD2 d2 r2 => ?_
  refine ne_rows ((hB.kp e1 id).kp e2 id) d2 ((rB.kp e1 (fun _ h => h.elim) (fun _ _ h => h)).kp e2 (fun _ h => h.elim) (fun _ _ h => h)) r2 (by omega) ?_
  refine wpAny_truthy_bool ?_
  rw [if_neg Bool.false_ne_true]
  refine isTrue_or_nil ?_
  rw [if_neg Bool.false_ne_true]
  exact wpAny_execs_nil (hQ s2 (e1.trans e2))

/-- list(sort(pairs, items)) != [item for layer in front for item in layer] -/
theorem sort_flat (hA : Fit 8 A) (B : Bs w s.heap) {R : Nat → Prop} {P I : Nat} {ps : List (Nat × Nat)} {rows : List (List Nat)} {nm : Str} {q1 q2 q3 q4 q5 q6 : Pos} (g : Given s R P I ps ns) (hrows : peel (kvOf true ps) ns.length ns = rows) (hlen : rows.flatten.length ≤ 900)
    (hP : ∀ (E : Value → Shared → Prop) (Q : Value → Shared → Prop), Q (.ref P) s → wpAny (model prog w) A (eval (.Name nm q3) (envLaw w.params L fa cd)) Q E s) (hI : At s (L + 4) (CellO (some (.ref I)))) {Q : Value → Shared → Prop}
    (hQ : ∀ s' D, Kp No No s s' → Above s D → At s' D (NatsO rows.flatten) → Q (.ref D) s') :
    wpAny (model prog w) A (eval (.Call (.Name "list" q1) [.Call (.Name "sort" q2) [.Name nm q3, .Name "items" q4] [] q5] [] q6) (envLaw w.params L fa cd)) Q E s := by
  have hroom : A.depth < recursionLimit := by have := hA.depth; omega
  refine Call_ ?_
  refine ev_builtin B boot_list ?_
  refine PyProof.Rows.callWith_type1 ?_
  refine spliced_cons ?_
  refine Call_ ?_
  refine ev_global B (.ref 65) ?_
  refine call_fn (fd := fdOf w.params 65) rfl rfl ?_
  refine spliced_cons ?_
  refine hP _ _ ?_
  refine spliced_cons ?_
  refine ev_cell hI ?_
  refine spliced_nil ⟨B, ?_⟩
  refine sort_make B hroom g fun s1 G g0 V e1 hG hg hV hga => ?_
  rw [hrows] at hga
  refine spliced_nil ?_
  refine call_list_ints (s0 := s) hA hlen hga (B.kp e1 (fun _ h => h.elim)) e1 (fun b hb => out_of_above (hV b hb)) hg (fun b hb => (g.rl b hb).kp e1 id) fun s2 D vs e2 hD d2 hv => ?_
  exact hQ s2 D e2 hD (d2.imp fun o ho => ⟨vs, ho, hv⟩)

set_option maxHeartbeats 2000000 in
theorem law_s10 (hA : Fit 8 A) (hu : A.units + 10 < cLine) (B : Bs w s.heap) (x : LS s L m P T I ns ps) (hm7 : m ≤ 7) (hr : Rise m ps) (hl : ns.length = m) (hns : ∀ y ∈ ns, y < m) (hon : ∀ y, y < m → y ∈ ns) {tn : Tok}
    (hL : At s L (VarsO (lawL FR BK (top (upL ps) ns) tn))) {fws bws : List Value} (hF : At s FR (ListO fws)) (hB : At s BK (ListO bws))
    (rF : Rows s No fws (rowsOf (dnL ps) ns (top (dnL ps) ns))) (rB : Rows s No bws (rowsOf (upL ps) ns (top (upL ps) ns))) {Q : Flow → Shared → Prop} (hQ : ∀ s', Kp No No s s' → Q .next s') :
    wpAny (model prog w) A (exec (lawStmt w.params 9) (envLaw w.params L fa cd)) Q E s := by
  have hh := hA.handled
  have t8 : top (upL ps) ns ≤ 8 := top_le8 ps ns
  have t8' : top (dnL ps) ns ≤ 8 := top_le8 (swp ps) ns
  have fl : ∀ av n, n ≤ 8 → (rowsOf av ns n).flatten.length ≤ 900 := fun av n hn => by
    have h1 := rows_len av ns n
    have h2 : n * ns.length ≤ 8 * 7 := Nat.mul_le_mul hn (by omega)
    omega
  obtain ⟨R, g⟩ := x.given hm7 hr hns hl
  obtain ⟨R', g'⟩ := x.givenT hm7 hr hns hl
  refine wpAny_If ?_
  refine isTrue_or ?_
  refine wpAny_isTrue_Compare1 ?_
  refine sort_flat hA B g (fronts_peel hm7 hr hon) (fl _ _ t8') (by exact fun E Q hq => ev_cell x.cP hq) x.cI fun s1 D e1 hD d1 => ?_
  refine comp_flat hh (fl _ _ t8') rfl rfl (by decide) (by decide) (fun _ => rfl) (fun _ => rfl) (fun _ => rfl) (fun _ => rfl) (by decide) (by decide) (hF.kp e1 id) (rF.kp e1 (fun _ h => h.elim) (fun _ _ h => h)) (fun Q hq => ev_local (hL.kp e1 id) (.head _) hq) fun s2 D2 us e2 hD2 d2 hus => ?_
  refine ne_nats (d1.kp e2 id) (d2.imp fun o ho => ⟨us, ho, hus⟩) (by omega) ?_
  refine wpAny_truthy_bool ?_
  rw [if_neg Bool.false_ne_true]
  have e02 := e1.trans e2
  have B2 := B.kp e02 (fun _ h => h.elim)
  refine isTrue_or ?_
  refine wpAny_isTrue_Compare1 ?_
  refine sort_flat hA B2 (g'.kp e02 (fun _ h => h.elim)) (backs_peel hm7 hr hon) (fl _ _ t8) (by exact fun E Q hq => ev_cell (x.cT.kp e02 id) hq) (x.cI.kp e02 id) fun s3 D3 e3 hD3 d3 => ?_
  have e03 := e02.trans e3
  refine comp_flat hh (fl _ _ t8) rfl rfl (by decide) (by decide) (fun _ => rfl) (fun _ => rfl) (fun _ => rfl) (fun _ => rfl) (by decide) (by decide) (hB.kp e03 id) (rB.kp e03 (fun _ h => h.elim) (fun _ _ h => h)) (fun Q hq => ev_local (hL.kp e03 id) (.tail _ (.head _)) hq) fun s4 D4 us4 e4 hD4 d4 hus4 => ?_
  refine ne_nats (d3.kp e4 id) (d4.imp fun o ho => ⟨us4, ho, hus4⟩) (by omega) ?_
  refine wpAny_truthy_bool ?_
  rw [if_neg Bool.false_ne_true]
  refine isTrue_or_nil ?_
  rw [if_neg Bool.false_ne_true]
  exact wpAny_execs_nil (hQ s4 (e03.trans e4))
end
end Mine
end Law7Part

section Law8Part
open PySem PySem.W PyProof.Rows PySem.Calls
namespace Mine

section
variable {prog : Program} {w : World} {A : Around} {E : Value → Shared → Prop} {s : Shared} {L fa : Nat} {cd : Value} {m P T I FR BK : Nat} {ns : List Nat} {ps : List (Nat × Nat)}

theorem min_nats {l : Nat} {vs : List Value} {ns : List Nat} (hh : A.handled = none) (hl : At s l (ListO vs)) (hi : NatsAre vs ns) (hne : ns ≠ []) {Q : Value → Shared → Prop}
    (hQ : ∀ s' M t, Kp No No s s' → M ∈ ns → Q (.int (M : Nat) t) s') : wpAny (model prog w) A (call (.builtin "min") [.ref l]) Q E s := by
  have hL := listO_isList hl
  have hi' : IntsAre vs (ns.map fun k : Nat => (k : Int)) := hi
  obtain ⟨xs, e⟩ := hi'.allInts.items
  have hns : (ns.map fun k : Nat => (k : Int)) = xs.toList.map (·.1) := by
    rw [← hi'.numsOf, ← nums_intItems, ← e]
  have hsz : 0 < xs.size := by
    have h3 : 0 < ns.length := List.length_pos_iff.mpr hne
    have := congrArg List.length hns
    simp at this; omega
  rw [e] at hL
  refine min_intList hh hL hsz fun v h' tk hv hk => ?_
  obtain ⟨t, rfl⟩ := intItems_at hv
  obtain ⟨h1, h2⟩ := argBest_lt (numAt xs) (xs.size - 1)
  have hmem : ∀ j, j < xs.size → ∃ k ∈ ns, numAt xs j = (k : Nat) := fun j hj => by
    have : numAt xs j ∈ ns.map fun k : Nat => (k : Int) := by rw [hns, numAt_eq]; exact getD_mem (by rw [List.length_map, Array.length_toList]; exact hj)
    obtain ⟨k, hk, he⟩ := List.mem_map.mp this
    exact ⟨k, hk, he.symm⟩
  obtain ⟨M, hM, heM⟩ := hmem (argBest (fun i j => decide (numAt xs i < numAt xs j)) (xs.size - 1)) (by omega)
  rw [heM]
  exact hQ _ M t (Kp.keeps (tk := tk) hk) hM

theorem rows_ne {av : Nat → Nat} {k : Nat} {kv : List (Nat × Nat)} (H : Lev kv av) (hcl : ∀ q ∈ kv, q.1 ∈ ns → q.2 ∈ ns) (hk : k < top av ns) : (ns.filter fun x => av x == k + 1) ≠ [] := by
  -- every level below the top holds an item
  have key : ∀ d x, x ∈ ns → av x = k + 1 + d → ∃ y ∈ ns, av y = k + 1 := by
    intro d
    induction d with
    | zero => intro x hx h; exact ⟨x, hx, by omega⟩
    | succ d ih =>
      intro x hx h
      obtain ⟨y, hy, he⟩ := H.some (x := x) (by omega)
      exact ih y (hcl _ hy hx) (by omega)
  obtain ⟨x, hx, he⟩ := top_mem (L := av) (ns := ns) (by omega)
  obtain ⟨y, hy, hye⟩ := key (top av ns - (k + 1)) x hx (by omega)
  exact List.ne_nil_of_mem (List.mem_filter.mpr ⟨hy, by simpa using hye⟩)

set_option maxHeartbeats 4000000 in
theorem law_s11 (hA : Fit 8 A) (hu : A.units + 10 < cLine) (B : Bs w s.heap) (x : LS s L m P T I ns ps) (hm7 : m ≤ 7) (hr : Rise m ps) (hps : ps.length ≤ 900) (hl : ns.length = m) (hns : ∀ y ∈ ns, y < m) (hon : ∀ y, y < m → y ∈ ns) {tn : Tok}
    (hL : At s L (VarsO (lawL FR BK (top (upL ps) ns) tn))) {fws : List Value} (hF : At s FR (ListO fws))
    (rF : Rows s No fws (rowsOf (dnL ps) ns (top (dnL ps) ns))) {Q : Flow → Shared → Prop} (hQ : ∀ s', Kp No No s s' → Q .next s') :
    wpAny (model prog w) A (exec (lawStmt w.params 10) (envLaw w.params L fa cd)) Q E s := by
  have hh := hA.handled
  have hA3 : Fit 3 A := ⟨hh, by have := hA.depth; omega⟩
  have hroom : A.depth < recursionLimit := by have := hA.depth; omega
  have t8 : top (upL ps) ns ≤ 8 := top_le8 ps ns
  have t8' : top (dnL ps) ns ≤ 8 := top_le8 (swp ps) ns
  have ht := tops (ps := ps) hm7 hr hon
  have hcl : ∀ q ∈ swp ps, q.1 ∈ ns → q.2 ∈ ns := fun q hq _ => by
    obtain ⟨p, hp, rfl⟩ := List.mem_map.mp hq
    have := hr p hp
    exact hon _ (by dsimp only; omega)
  refine wpAny_If ?_
  refine isTrue_and ?_
  refine wpAny_isTrue_Compare1 ?_
  refine ev_local hL (.tail _ (.tail _ (.head _))) ?_
  refine ev_int fun s1 t1 e1 => ?_
  refine PyProof.Rows.gt_int ?_
  refine wpAny_truthy_bool ?_
  by_cases h1 : (1 : Int) < (top (upL ps) ns : Nat)
  · rw [if_pos (by simpa using h1)]
    have htop2 : 2 ≤ top (dnL ps) ns := by omega
    have B1 := B.kp e1 (fun _ h => h.elim)
    refine isTrue_and ?_
    refine wpAny_isTrue_Compare1 ?_
    refine Call_ ?_
    refine ev_builtin B1 boot_len ?_
    refine PyProof.Rows.callWith_builtin1 ?_
    refine spliced_cons ?_
    refine comp_len (cl := []) (d := 3) (xs := rowsOf (dnL ps) ns (top (dnL ps) ns)) hA3 (by simp; omega) B1 rfl rfl (by decide) (by decide) (fun _ => rfl) (fun _ => rfl) (fun _ => rfl) (fun Q hq => ?_) (fun C v s2 Q l2 hq => ev_local l2 (.head _) hq) (fun s2 D ws e2 hD d2 hw => ?_)
    · have x1 := x.kp e1 (fun _ h => h.elim)
      obtain ⟨pvs, hPl, hPp⟩ := x1.prs
      refine Call_ ?_
      refine ev_global B1 (.ref 57) ?_
      refine call_fn (fd := fdOf w.params 57) rfl rfl ?_
      refine spliced_cons ?_
      refine wpAny_BinOp ?_
      refine ev_cell x1.cP ?_
      refine List_ ?_
      refine spliced_cons ?_
      refine Tuple_ (k := 0) ?_
      refine spliced_cons ?_
      refine Call_ ?_
      refine ev_builtin B1 boot_min ?_
      refine PyProof.Rows.callWith_builtin1 ?_
      refine spliced_cons ?_
      refine Subscript_ ?_
      refine ev_local (hL.kp e1 id) (.head _) ?_
      refine ev_int fun s2 t2 e2 => ?_
      have e02 := e1.trans e2
      have hF2 := hF.kp e02 id
      have rF2 := rF.kp e02 (fun _ h => h.elim) (fun _ _ h => h)
      refine tail_any (listO_typeIs hF2) slot_list_getitem.lookup ?_ (by with_unfolding_all rfl)
      obtain ⟨O0, hO0, hO0r, _⟩ := rF2.2 0 (by simp; omega)
      refine wpAny_getItem_list (listO_isList hF2) (by decide) (by decide) (x := .ref O0) (by simpa using hO0) ?_
      refine spliced_nil ?_
      obtain ⟨v0, hv0, hv0n⟩ := natsO_list hO0r
      have hr0 : (rowsOf (dnL ps) ns (top (dnL ps) ns))[0]'(by simp; omega) = ns.filter fun x => dnL ps x == 0 + 1 := by simp [rowsOf]
      rw [hr0] at hv0n
      refine min_nats hh hv0 hv0n (rows_ne (lev_dn hm7 hr) hcl (by omega)) fun s3 a ta e3 ha => ?_
      obtain ⟨haN, haL⟩ := List.mem_filter.mp ha
      have haL : dnL ps a = 1 := by simpa using haL
      have e03 := e02.trans e3
      have B3 := B.kp e03 (fun _ h => h.elim)
      refine spliced_cons ?_
      refine Call_ ?_
      refine ev_builtin B3 boot_max ?_
      refine PyProof.Rows.callWith_builtin1 ?_
      refine spliced_cons ?_
      refine Subscript_ ?_
      refine ev_local (hL.kp e03 id) (.head _) ?_
      refine eval_neg1 fun s4 t4 e4 => ?_
      have e04 := e03.trans e4
      have hF4 := hF.kp e04 id
      have rF4 := rF.kp e04 (fun _ h => h.elim) (fun _ _ h => h)
      refine tail_any (listO_typeIs hF4) slot_list_getitem.lookup ?_ (by with_unfolding_all rfl)
      have hfl : fws.length = top (dnL ps) ns := by rw [rF.1]; simp
      obtain ⟨O1, hO1, hO1r, _⟩ := rF4.2 (top (dnL ps) ns - 1) (by simp; omega)
      refine wpAny_getItem_list_neg (listO_isList hF4) (by decide) (by rw [List.size_toArray]; omega) (by decide) (x := .ref O1) ?_ ?_
      · have : ((-1 : Int) + (fws.toArray.size : Nat)).toNat = top (dnL ps) ns - 1 := by rw [List.size_toArray]; omega
        rw [this]; simpa using hO1
      refine spliced_nil ?_
      obtain ⟨v1, hv1, hv1n⟩ := natsO_list hO1r
      have hr1 : (rowsOf (dnL ps) ns (top (dnL ps) ns))[top (dnL ps) ns - 1]'(by simp; omega) = ns.filter fun x => dnL ps x == (top (dnL ps) ns - 1) + 1 := by simp [rowsOf]
      rw [hr1] at hv1n
      refine max_nats hh hv1 hv1n (rows_ne (lev_dn hm7 hr) hcl (by omega)) fun s5 b tb e5 hb _ => ?_
      obtain ⟨hbN, hbL⟩ := List.mem_filter.mp hb
      have hbL : dnL ps b = top (dnL ps) ns := by have : dnL ps b = top (dnL ps) ns - 1 + 1 := by simpa using hbL
                                                  omega
      refine spliced_nil ?_
      have e15 := ((e2.trans e3).trans e4).trans e5
      refine new_pair fun s6 X e6 hX x6 => ?_
      refine spliced_nil ?_
      refine new_list (by simp) fun s7 Z e7 hZ z7 => ?_
      have e17 := (e15.trans e6).trans e7
      have hpl : pvs.length ≤ 900 := by rw [hPp.1]; omega
      refine add_lists' (hPl.kp e17 id) z7 (by simp; omega) fun s8 Y e8 hY y8 => ?_
      have e18 := e17.trans e8
      have B8 := B1.kp e18 (fun _ h => h.elim)
      refine spliced_cons ?_
      refine ev_cell (x1.cI.kp e18 id) ?_
      refine spliced_nil ⟨B8, ?_⟩
      have pl8 : PL s8 (fun _ => True) (pvs ++ [.ref X]) (ps ++ [(a, b)]) := by
        refine PL.snoc ?_ ((x6.kp e7 id).kp e8 id) trivial
        exact (hPp.kp e18 (fun _ h => h.elim)).imp fun _ _ _ => trivial
      have ham := hns a haN; have hbm := hns b hbN
      have hlev2 : Lev (swp (ps ++ [(a, b)])) (dnL ps) := by
        have : swp (ps ++ [(a, b)]) = swp ps ++ [(b, a)] := by simp [swp]
        rw [this]
        exact (lev_dn hm7 hr).add haL (by show 2 ≤ dnL ps b; omega)
      have hg8 : Given s8 (fun q => prR Y (pvs ++ [.ref X]) q ∨ q = I) Y I (ps ++ [(a, b)]) ns := by
        refine ⟨(pl8.toR y8).mono fun b => .inl, (x1.itms.kp e18 id), .inr rfl, ?_, fun p hp => ?_, fun y hy => by have := hns y hy; omega, by omega, hlev2.acy⟩
        · rintro q (hq' | rfl)
          · rcases pl8.at hq' with rfl | ⟨_, h⟩
            · exact y8.live
            · exact h
          · exact (x1.itms.kp e18 id).live
        · rcases List.mem_append.mp hp with h | h
          · have hp1 := hr p h; have hp2 := hp1.1; have hp3 := hp1.2; exact ⟨by omega, by omega⟩
          · have hpe : p = (a, b) := by simpa using h
            subst hpe
            exact ⟨by show a < _; omega, by show b < _; omega⟩
      refine sub_make B8 hroom hg8 fun s9 G g0 V e9 hG hg hV hga => ?_
      have hpeel : peel (kvOf true (ps ++ [(a, b)])) ns.length ns = rowsOf (dnL ps) ns (top (dnL ps) ns) := by
        rw [kvOf_swp]
        refine layers0 hlev2 fun q hq' _ => ?_
        obtain ⟨p, hp, rfl⟩ := List.mem_map.mp hq'
        rcases List.mem_append.mp hp with h | h
        · have := hr p h; exact hon _ (by dsimp only; omega)
        · simp at h; subst h; exact haN
      rw [hpeel] at hga
      exact hq s9 G g0 V _ (e18.trans e9) (hG.kp e18) (by have := e18.gsz; omega) (fun b hb => (hV b hb).kp e18) (fun q hq' => (hg8.rl q hq').kp e9 id) hga
    · refine spliced_nil ?_
      refine op_len (d2.imp fun o ho => ListO.seq ho) (by rw [hw]; simp; omega) fun s3 t3 e3 => ?_
      refine ev_local (((hL.kp e1 id).kp e2 id).kp e3 id) (.tail _ (.tail _ (.head _))) ?_
      refine PyProof.Rows.ne_int ?_
      refine wpAny_truthy_bool ?_
      have heq : ws.length = top (upL ps) ns := by rw [hw, ht]; simp
      rw [heq]
      rw [if_neg (by simp)]
      rw [if_neg Bool.false_ne_true]
      exact wpAny_execs_nil (hQ s3 ((e1.trans e2).trans e3))
  · rw [if_neg (by simpa using h1)]
    rw [if_neg Bool.false_ne_true]
    exact wpAny_execs_nil (hQ s1 e1)

theorem law_s12 (hh : A.handled = none) (hroom : A.depth + 20 < recursionLimit) (hu : A.units + 10 < cLine) (B : Bs w s.heap) (x : LS s L m P T I ns ps) (hm7 : m ≤ 7) (hr : Rise m ps) (hl : ns.length = m) (hns : ∀ y ∈ ns, y < m) {Q : Flow → Shared → Prop} (hQ : ∀ s', Kp No No s s' → Q (.ret (.bool true)) s') :
    wpAny (model prog w) A (exec (lawStmt w.params 11) (envLaw w.params L fa cd)) Q E s := by
  obtain ⟨R, g⟩ := x.given hm7 hr hns hl
  obtain ⟨R', g'⟩ := x.givenT hm7 hr hns hl
  refine wpAny_Return_some ?_
  refine BoolOp_and ?_
  refine wpAny_Compare1 ?_
  refine Call_ ?_
  refine ev_global B (.ref 72) ?_
  refine call_fn (fd := fdOf w.params 72) rfl rfl ?_
  refine spliced_cons ?_
  refine ev_cell x.cP ?_
  refine spliced_cons ?_
  refine ev_cell x.cI ?_
  refine spliced_nil ⟨B, ?_⟩
  refine fc_call B hh (by omega) g fun s1 O1 e1 hO1 o1 => ?_
  have B1 := B.kp e1 (fun _ h => h.elim)
  refine Call_ ?_
  refine ev_builtin B1 boot_set ?_
  refine callWith_type0 ?_
  refine call_set_empty fun s2 O2 e2 hO2 o2 => ?_
  refine eq_empty (o1.kp e2 id) o2 (by omega) ?_
  refine wpAny_truthy_bool ?_
  rw [if_pos rfl]
  have e02 := e1.trans e2
  have B2 := B.kp e02 (fun _ h => h.elim)
  refine BoolOp_one ?_
  refine wpAny_Compare1 ?_
  refine Call_ ?_
  refine ev_global B2 (.ref 72) ?_
  refine call_fn (fd := fdOf w.params 72) rfl rfl ?_
  refine spliced_cons ?_
  refine ev_cell (x.cT.kp e02 id) ?_
  refine spliced_cons ?_
  refine ev_cell (x.cI.kp e02 id) ?_
  refine spliced_nil ⟨B2, ?_⟩
  refine fc_call B2 hh (by omega) (g'.kp e02 (fun _ h => h.elim)) fun s3 O3 e3 hO3 o3 => ?_
  have B3 := B2.kp e3 (fun _ h => h.elim)
  refine Call_ ?_
  refine ev_builtin B3 boot_set ?_
  refine callWith_type0 ?_
  refine call_set_empty fun s4 O4 e4 hO4 o4 => ?_
  refine eq_empty (o3.kp e4 id) o4 (by omega) ?_
  exact hQ s4 ((e02.trans e3).trans e4)
end
end Mine
end Law8Part

section Law9Part
open PySem PySem.W PyProof.Rows PySem.Calls
namespace Mine

theorem cells_out {s : Shared} {L : Nat} (h0 : Live s L) (h1 : Live s (L + 1)) (h2 : Live s (L + 2)) (h3 : Live s (L + 3)) (h4 : Live s (L + 4)) (h5 : Live s (L + 5)) (h6 : Live s (L + 6)) (h7 : Live s (L + 7)) (h8 : Live s (L + 8)) (b : Nat) (hb : Out s b) :
    ¬ (L ≤ b ∧ b ≤ L + 8) := by
  rintro ⟨x, y⟩
  have k : ∀ q, Live s q → b ≠ q := fun q ⟨o, ho⟩ e => by subst e; rw [hb] at ho; cases ho
  have k0 := k _ h0; have k1 := k _ h1; have k2 := k _ h2; have k3 := k _ h3; have k4 := k _ h4; have k5 := k _ h5; have k6 := k _ h6; have k7 := k _ h7; have k8 := k _ h8
  omega

section
variable {prog : Program} {w : World} {A : Around} {E : Value → Shared → Prop} {s : Shared} {L fa : Nat} {cd : Value}

set_option maxHeartbeats 4000000 in
theorem law_body (hA : Fit 8 A) (hroom : A.depth + 20 < recursionLimit) (hu : A.units + 10 < cLine) (B : Bs w s.heap) {S : Nat} {vs : List Value} {is : List Int} (hL : At s L (VarsO [(Str.ofString "script", .ref S)])) (hS : At s S (SeqO vs)) (hi : IntsAre vs is) (hlen : vs.length ≤ 63)
    (h88 : 88 ≤ L) (hSL : S < L) (c1 : At s (L + 1) (CellO none)) (c2 : At s (L + 2) (CellO none)) (c3 : At s (L + 3) (CellO none)) (c4 : At s (L + 4) (CellO none)) (c5 : At s (L + 5) (CellO none)) (c6 : At s (L + 6) (CellO none)) (c7 : At s (L + 7) (CellO none)) (c8 : At s (L + 8) (CellO none))
    {Q : Flow → Shared → Prop} (hQ : ∀ s', Kp (fun b => L ≤ b) No s s' → Q (.ret (.bool true)) s') :
    wpAny (model prog w) A (execs (bodyOf (fdOf w.params 87)) (envLaw w.params L fa cd)) Q E s := by
  have hb : bodyOf (fdOf w.params 87) = [lawStmt w.params 0, lawStmt w.params 1, lawStmt w.params 2, lawStmt w.params 3, lawStmt w.params 4, lawStmt w.params 5, lawStmt w.params 6, lawStmt w.params 7, lawStmt w.params 8, lawStmt w.params 9, lawStmt w.params 10, lawStmt w.params 11] := rfl
  rw [hb]
  have hh := hA.handled
  have hA3 : Fit 3 A := ⟨hh, by have := hA.depth; omega⟩
  refine wpAny_execs_cons ?_
  refine law_s1 hh hL hS hi hlen c1 c2 fun s1 a b ta tb e1 ca1 cb1 => ?_
  have n1 : ∀ q : Nat, q ≠ L + 1 → q ≠ L + 2 → ¬ (q = L + 1 ∨ q = L + 2) := fun q _ _ h => by omega
  refine wpAny_execs_cons ?_
  refine law_s2 ca1 (c3.kp e1 (n1 _ (by omega) (by omega))) fun s2 m tm hm hm7 e2 cm2 => ?_
  have B1 := B.kp e1 (fun q h => by rcases h with h | h <;> omega)
  have B2 := B1.kp e2 (fun q h => by have h : q = L + 3 := h; omega)
  have n2 : ∀ q : Nat, q ≠ L + 3 → ¬ (q = L + 3) := fun q h => h
  have g2 : ∀ {q : Nat} {φ}, At s q φ → q ≠ L + 1 → q ≠ L + 2 → q ≠ L + 3 → At s2 q φ := fun h x y z => (h.kp e1 (n1 _ x y)).kp e2 (n2 _ z)
  have c8' := g2 c8 (by omega) (by omega) (by omega)
  refine wpAny_execs_cons ?_
  refine law_s3 hh B2 hm hm7 (ca1.kp e2 (n2 _ (by omega))) (cb1.kp e2 (n2 _ (by omega))) cm2 (g2 c4 (by omega) (by omega) (by omega)) (g2 c5 (by omega) (by omega) (by omega)) fun s3 I P vi ns e3 cI3 cP3 aI aP hIP hI hni hP hon hns hl => ?_
  have hP8 : L + 8 < P := c8'.above aP
  have hI8 : L + 8 < I := c8'.above aI
  have B3 := B2.kp e3 (fun q h => by rcases h with h | h <;> omega)
  have n3 : ∀ q : Nat, q ≠ L + 4 → q ≠ L + 5 → ¬ (q = L + 4 ∨ q = L + 5) := fun q _ _ h => by omega
  have g3 : ∀ {q : Nat} {φ}, At s q φ → q ≠ L + 1 → q ≠ L + 2 → q ≠ L + 3 → q ≠ L + 4 → q ≠ L + 5 → At s3 q φ := fun h x y z u v => (g2 h x y z).kp e3 (n3 _ u v)
  have hL3 := g3 hL (by omega) (by omega) (by omega) (by omega) (by omega)
  have hS3 := g3 hS (by omega) (by omega) (by omega) (by omega) (by omega)
  have a3 := (ca1.kp e2 (n2 _ (by omega))).kp e3 (n3 _ (by omega) (by omega))
  have b3 := (cb1.kp e2 (n2 _ (by omega))).kp e3 (n3 _ (by omega) (by omega))
  have cm3 := cm2.kp e3 (n3 _ (by omega) (by omega))
  have d6 := g3 c6 (by omega) (by omega) (by omega) (by omega) (by omega)
  have d7 := g3 c7 (by omega) (by omega) (by omega) (by omega) (by omega)
  have d8 := g3 c8 (by omega) (by omega) (by omega) (by omega) (by omega)
  have out3 := cells_out hL3.live a3.live b3.live cm3.live cI3.live cP3.live d6.live d7.live d8.live
  refine wpAny_execs_cons ?_
  refine law_s4 hh B3 hu hm hm7 hL3 hS3 hi hlen cm3 cP3 hP ⟨h88, by omega⟩ ⟨by omega, by omega, by omega⟩ fun s4 pv ps e4 hL4 hP4 pl4 hps hr => ?_
  have B4 := B3.kp e4 (fun q h => by rcases h with h | h <;> omega)
  have n4 : ∀ q : Nat, q ≠ L → q ≠ P → ¬ (q = L ∨ q = P) := fun q _ _ h => by omega
  have f1 := a3.kp e4 (n4 _ (by omega) (by omega))
  have f2 := b3.kp e4 (n4 _ (by omega) (by omega))
  have f3 := cm3.kp e4 (n4 _ (by omega) (by omega))
  have f4 := cI3.kp e4 (n4 _ (by omega) (by omega))
  have f5 := cP3.kp e4 (n4 _ (by omega) (by omega))
  have f6 := d6.kp e4 (n4 _ (by omega) (by omega))
  have f7 := d7.kp e4 (n4 _ (by omega) (by omega))
  have f8 := d8.kp e4 (n4 _ (by omega) (by omega))
  have hI4 := hI.kp e4 (n4 _ (by omega) hIP)
  have out4 := cells_out hL4.live f1.live f2.live f3.live f4.live f5.live f6.live f7.live f8.live
  refine wpAny_execs_cons ?_
  refine law_s5 hh hP4 pl4 (by omega) f5 f6 fun s5 T tw e5 aT hT5 plT ct5 => ?_
  have hT8 : L + 8 < T := f8.above aT
  have n5 : ∀ q : Nat, q ≠ L + 6 → ¬ (q = L + 6) := fun q h => h
  have B5 := B4.kp e5 (fun q h => by have h : q = L + 6 := h; omega)
  have hI5 := hI4.kp e5 (n5 _ (by omega))
  have x5 : LS s5 L m P T I ns ps := by
    refine ⟨⟨tm, f3.kp e5 (n5 _ (by omega))⟩, f4.kp e5 (n5 _ (by omega)), f5.kp e5 (n5 _ (by omega)), ct5, hI5.imp fun o ho => ⟨vi, ho, hni⟩, ⟨pv, hP4.kp e5 (n5 _ (by omega)), ?_⟩, ⟨tw, hT5, plT.imp fun q _ h => out4 q h⟩, ⟨by omega, by omega, by omega⟩⟩
    exact (pl4.imp fun q _ h => out3 q h).kp e5 fun q h => by have h : q = L + 6 := h; omega
  have hps9 : ps.length ≤ 900 := by omega
  refine wpAny_execs_cons ?_
  refine law_s6 hh hroom B5 x5 hm hm7 hr hps9 hl hns (f7.kp e5 (n5 _ (by omega))) (f8.kp e5 (n5 _ (by omega))) fun s6 BH AH bvs avs e6 aB aA hB6 hbv hA6 hav cb6 ca6 => ?_
  have hB8 : L + 8 < BH := (f8.kp e5 (n5 _ (by omega))).above aB
  have hA8 : L + 8 < AH := (f8.kp e5 (n5 _ (by omega))).above aA
  have B6 := B5.kp e6 (fun q h => by rcases h with h | h <;> omega)
  have x6 := x5.kp e6 (fun q h => by rcases h with h | h <;> omega)
  have n6 : ∀ q : Nat, q ≠ L + 7 → q ≠ L + 8 → ¬ (q = L + 7 ∨ q = L + 8) := fun q _ _ h => by omega
  have hL6 := (hL4.kp e5 (n5 _ (by omega))).kp e6 (n6 _ (by omega) (by omega))
  refine wpAny_execs_cons ?_
  refine law_s7 hh B6 hm hns hon hL6 hB6 hbv cb6 fun s7 t e7 hL7 => ?_
  have n7 : ∀ q : Nat, q ≠ L → ¬ (q = L) := fun q h => h
  have B7 := B6.kp e7 (fun q h => by have h : q = L := h; omega)
  have x7 := x6.kp e7 (fun q h => by have h : q = L := h; omega)
  refine wpAny_execs_cons ?_
  refine law_s8 hA3 B7 x7 hm7 hr hl hns hon hL7 fun s8 FR BK fws bws e8 hL8 hF hK rF rB => ?_
  have B8 := B7.kp e8 (fun q h => by have h : q = L := h; omega)
  have x8 := x7.kp e8 (fun q h => by have h : q = L := h; omega)
  have k8 : ∀ {q : Nat} {φ}, At s6 q φ → q ≠ L → At s8 q φ := fun h x => (h.kp e7 (n7 _ x)).kp e8 (n7 _ x)
  refine wpAny_execs_cons ?_
  refine law_s9 hh hu B8 x8 hm7 hr hl hns hon hL8 (k8 hB6 (by omega)) hbv (k8 hA6 (by omega)) hav (k8 cb6 (by omega)) (k8 ca6 (by omega)) hF hK rF rB fun s9 e9 => ?_
  have B9 := B8.kp e9 (fun q h => h.elim)
  have x9 := x8.kp e9 (fun q h => h.elim)
  refine wpAny_execs_cons ?_
  have rF9 := rF.kp e9 (fun _ h => h.elim) (fun _ _ h => h)
  have rB9 := rB.kp e9 (fun _ h => h.elim) (fun _ _ h => h)
  refine law_s10 hA hu B9 x9 hm7 hr hl hns hon (hL8.kp e9 id) (hF.kp e9 id) (hK.kp e9 id) rF9 rB9 fun s10 e10 => ?_
  have e910 := e9.trans e10
  have B10 := B8.kp e910 (fun q h => h.elim)
  have x10 := x8.kp e910 (fun q h => h.elim)
  refine wpAny_execs_cons ?_
  refine law_s11 hA hu B10 x10 hm7 hr hps9 hl hns hon (hL8.kp e910 id) (hF.kp e910 id) (rF.kp e910 (fun _ h => h.elim) (fun _ _ h => h)) fun s11 e11 => ?_
  have e911 := e910.trans e11
  have B11 := B8.kp e911 (fun q h => h.elim)
  have x11 := x8.kp e911 (fun q h => h.elim)
  refine wpAny_execs_cons ?_
  refine law_s12 hh hroom hu B11 x11 hm7 hr hl hns fun s12 e12 => ?_
  refine hQ s12 ?_
  have z1 : Kp (fun b => L ≤ b) No s s1 := e1.mono (fun b o _ h => by rcases h with h | h <;> (show L ≤ b; omega)) (fun _ _ h => h)
  have z2 : Kp (fun b => L ≤ b) No s1 s2 := e2.mono (fun b o _ h => by have h : b = L + 3 := h; show L ≤ b; omega) (fun _ _ h => h)
  have z3 : Kp (fun b => L ≤ b) No s2 s3 := e3.mono (fun b o _ h => by rcases h with h | h <;> (show L ≤ b; omega)) (fun _ _ h => h)
  have z4 : Kp (fun b => L ≤ b) No s3 s4 := e4.mono (fun b o _ h => by rcases h with h | h <;> (show L ≤ b; omega)) (fun _ _ h => h)
  have z5 : Kp (fun b => L ≤ b) No s4 s5 := e5.mono (fun b o _ h => by have h : b = L + 6 := h; show L ≤ b; omega) (fun _ _ h => h)
  have z6 : Kp (fun b => L ≤ b) No s5 s6 := e6.mono (fun b o _ h => by rcases h with h | h <;> (show L ≤ b; omega)) (fun _ _ h => h)
  have z7 : Kp (fun b => L ≤ b) No s6 s7 := e7.mono (fun b o _ h => by have h : b = L := h; show L ≤ b; omega) (fun _ _ h => h)
  have z8 : Kp (fun b => L ≤ b) No s7 s8 := e8.mono (fun b o _ h => by have h : b = L := h; show L ≤ b; omega) (fun _ _ h => h)
  have z9 : Kp (fun b => L ≤ b) No s8 s12 := (e911.trans e12).mono (fun b o _ h => h.elim) (fun _ _ h => h)
  exact (((((((z1.trans z2).trans z3).trans z4).trans z5).trans z6).trans z7).trans z8).trans z9
end
end Mine
end Law9Part

section Law10Part
open PySem PySem.W PyProof.Rows PySem.Calls
set_option maxHeartbeats 8000000
namespace Mine
theorem row_holds : PySem.Challenge.rw_ae5042_01.Holds := by
  refine Mine.hd ?_
  k_fill
  intro w s₀ s₁ mg mb G Y fa o pm cd doc dV kV ho hd hcd hD hmg hg args vals as hpre hlay hrd hwl hlo
  have KX := kIn_of Y
  have X := (Ground.X G).1
  have V := (Ground.X G).2
  have GL := glob_more (Ground.glob G (by first | k_qdec | decide +kernel) (by first | k_qdec | decide +kernel)) V
  refine Ground.open G ?_
  intro T B D TE TW
  try (refine guard_noD D (by decide +kernel) ?_; clear D)
  have TA := at_of_top T
  clear hmg
  wrow_args hpre hlay hrd hwl hlo
  refine enter_call ?_
  w_top on
  have K0 := below_caller (Top.heap T)
  w_call any ho hd hcd hD T F
  clear hd TA
  rename_i F o8 o7 o6 o5 o4 o3 o2 o1 d8 d7 d6 d5 d4 d3 d2 d1 N0 X0
  rename Heap.IsList _ _ _ => hl
  rename IntsAre _ _ => hi
  rename (¬ _ < _) => hlen
  have e63 := hi.length
  have g87 := Heap.lt_size (KX 87 _ rfl)
  obtain ⟨ol, gl, cl, nl, dl⟩ := hl
  have hSL := Heap.lt_size gl
  obtain ⟨of, es, ep, gf, df, sf, ff⟩ := F.ns
  refine law_body (vs := _) ⟨rfl, ?_⟩ ?_ ?_ ⟨KX.keeps F.keep, ⟨_, GL.b.keeps F.keep, GL.builtins⟩, GL.nolimit.keeps F.keep⟩ ⟨of, gf, _, ⟨es, ep, df, sf, ff⟩, ?_⟩ ⟨ol, F.keep _ _ gl, cl, nl, dl⟩ hi ?_ ?_ hSL
    ⟨o1, (N0 _ (.tail _ (.tail _ (.tail _ (.tail _ (.tail _ (.tail _ (.tail _ (.head _))))))))).1, d1⟩
    ⟨o2, (N0 _ (.tail _ (.tail _ (.tail _ (.tail _ (.tail _ (.tail _ (.head _)))))))).1, d2⟩
    ⟨o3, (N0 _ (.tail _ (.tail _ (.tail _ (.tail _ (.tail _ (.head _))))))).1, d3⟩
    ⟨o4, (N0 _ (.tail _ (.tail _ (.tail _ (.tail _ (.head _)))))).1, d4⟩
    ⟨o5, (N0 _ (.tail _ (.tail _ (.tail _ (.head _))))).1, d5⟩
    ⟨o6, (N0 _ (.tail _ (.tail _ (.head _)))).1, d6⟩
    ⟨o7, (N0 _ (.tail _ (.head _))).1, d7⟩
    ⟨o8, (N0 _ (.head _)).1, d8⟩ fun s' e => ?_
  · show (1 + claimMargin) + 1 + 8 < recursionLimit; decide
  · show (1 + claimMargin) + 1 + 20 < recursionLimit; decide
  · show 4 + 3 + 10 < cLine; decide
  · intro p hp
    rcases List.mem_cons.mp hp with rfl | hp
    · rfl
    · cases hp
  · have h63 := Int.not_lt.mp hlen
    have h64 := Int.ofNat_le.mp h63
    rw [e63]
    exact h64
  · exact g87
  · refine ⟨.inl ⟨.bool true, .bool true, [], rfl, ?_, ?_, ?_, ?_⟩, .of_keep fun b o h => e.keep b o (fun hb => by have hlt := Heap.lt_size h; exact Nat.lt_irrefl _ (Nat.lt_of_lt_of_le hlt hb)) (F.keep b o h), e.os, e.bare (.of_eq hg)⟩
    · intro _; rfl
    · exact .bool true
    · exact postW_of (X := true) rfl (by first | (with_unfolding_all rfl) | (simp only [PySem.Challenge.rw_ae5042_01]; with_unfolding_all rfl) | (show WTm.value _ (.eq .res (.lit (.bool true))) _ = _; simp [WTm.value])) rfl
    · intro h; exact ⟨.nil, fun a ha => nomatch ha⟩
end Mine
end Law10Part

theorem PySem.Challenge.cw_ae5042_01_holds : PySem.Challenge.rw_ae5042_01.Holds := by
  exact Mine.row_holds
