/-
  THE PLAIN LAW of a map's keys: 11 and its length a key; no Go text in sight.
-/
import Derived.Test.Qxb6605389aModsEvs
import Derived.Maps.RangeWalk
namespace Go.Proofs.Qxb6605389aMods
open Go.RowKit Go.Maps

def keyLen : Lit → Nat
  | .string bs => bs.length
  | _ => 0
/-- 11 and its length for each key that is still to come. -/
def massL (left : Lit → Bool) : List (Lit × DataW Unit) → Nat
  | [] => 0
  | p :: r => (if left p.1 = true then 11 + keyLen p.1 else 0) + massL left r
def massLeft (left : Lit → Bool) : DataW Unit → Nat
  | .map es => massL left es
  | _ => 0
def mass (D : DataW Unit) : Nat := massLeft (fun _ => true) D

theorem massL_congr {l l' : Lit → Bool} : ∀ {es : List (Lit × DataW Unit)}, (∀ p ∈ es, l p.1 = l' p.1) → massL l es = massL l' es
  | [], _ => rfl
  | p :: r, h => by simp only [massL]; rw [h p (by simp), massL_congr (fun q hq => h q (by simp [hq]))]
theorem massL_none {l : Lit → Bool} : ∀ {es : List (Lit × DataW Unit)}, (∀ p ∈ es, l p.1 = false) → massL l es = 0
  | [], _ => rfl
  | p :: r, h => by simp only [massL]; rw [h p (by simp), massL_none (fun q hq => h q (by simp [hq]))]; simp
theorem massL_filter {g : Lit → Bool} : ∀ (es : List (Lit × DataW Unit)), massL (fun _ => true) (es.filter fun p => g p.1) = massL g es
  | [] => rfl
  | p :: r => by
    by_cases e : g p.1 = true
    · simp [massL, e, massL_filter r]
    · simp [massL, e, massL_filter r]
theorem massL_insert (x : Lit × DataW Unit) : ∀ (es : List (Lit × DataW Unit)), massL (fun _ => true) (DataW.insert x es) = 11 + keyLen x.1 + massL (fun _ => true) es
  | [] => by simp [DataW.insert, massL]
  | y :: r => by
    unfold DataW.insert
    split
    · simp [massL]
    · simp only [massL, massL_insert x r]; simp; omega

/-- Strike one key that is there. -/
theorem massL_strike {left : Lit → Bool} {kl : Lit} (hk : WideAt.IsKeyLit kl) (hl : left kl = true) : ∀ {es : List (Lit × DataW Unit)}, es.Pairwise (fun p q => p.1 ≠ q.1) → (∃ p ∈ es, p.1 = kl) →
    massL (fun z => left z && !z.sameKey kl) es + (11 + keyLen kl) = massL left es
  | [], _, h => by obtain ⟨p, hp, _⟩ := h; simp at hp
  | p :: r, hd, h => by
    obtain ⟨h1, h2⟩ := List.pairwise_cons.1 hd
    by_cases e : p.1 = kl
    · have hr : massL (fun z => left z && !z.sameKey kl) r = massL left r := massL_congr fun q hq => by
        have hne : q.1 ≠ kl := fun e' => h1 q hq (by rw [e, e'])
        rw [sameKey_ne hne]; simp
      simp [massL, hr, e, hl, WideAt.sameKey_self hk]; omega
    · obtain ⟨q, hq, hqe⟩ := h
      have hq' : q ∈ r := by
        rcases List.mem_cons.1 hq with rfl | hq'
        · exact absurd hqe e
        · exact hq'
      have ih := massL_strike hk hl h2 ⟨q, hq', hqe⟩
      simp [massL, sameKey_ne e]; omega

section
variable {w : World} {b n : Nat} {D : DataW Unit}

theorem law9 : Keyed Trym.prog 9 := string_keyed Trym.underlying9
theorem zero3 (w : World) : (zeroValue 3).run Trym.prog w = .ok (.int .i64 0) w := by kernel_rfl

/-- A map[string]int in memory. -/
def OwnsKept (w : World) (b n : Nat) (D : DataW Unit) : Prop := w.ownsMap Trym.prog 9 (plainElem Trym.prog 3) b n D

theorem mass_empty : mass (.map [] : DataW Unit) = 0 := rfl

theorem mass_start (h : OwnsKept w b n D) : massLeft (Maps.has D) D = mass D := by
  obtain ⟨es, rfl, _, hk⟩ := World.ownsMap.entries h law9
  show massL _ es = massL _ es
  refine massL_congr fun p hp => ?_
  exact List.any_eq_true.2 ⟨p, hp, WideAt.sameKey_self (hk p hp)⟩

theorem mass_step (h : OwnsKept w b n D) {left : Lit → Bool} {kl : Lit} (hl : left kl = true) (hh : Maps.has D kl = true) :
    massLeft (fun z => left z && !z.sameKey kl) D + (11 + keyLen kl) = massLeft left D := by
  obtain ⟨es, rfl, hd, hk⟩ := World.ownsMap.entries h law9
  obtain ⟨p, hp, hs⟩ := List.any_eq_true.1 hh
  have e := WideAt.sameKey_eq hs
  exact massL_strike (e ▸ hk p hp) hl hd ⟨p, hp, e⟩

theorem mass_end (h : OwnsKept w b n D) {left : Lit → Bool} (hl : ∀ kl, left kl = false) : massLeft left D = 0 := by
  obtain ⟨es, rfl, _, _⟩ := World.ownsMap.entries h law9
  exact massL_none fun p _ => hl p.1

theorem mass_put (h : OwnsKept w b n D) (kl : Lit) (d : DataW Unit) : mass (D.put kl d) = if Maps.has D kl = true then mass D else mass D + (11 + keyLen kl) := by
  have hst := mass_step h (left := fun _ => true) (kl := kl) rfl
  obtain ⟨es, rfl, hd, hkk⟩ := World.ownsMap.entries h law9
  have e : mass ((DataW.map es).put kl d) = 11 + keyLen kl + massL (fun z => !z.sameKey kl) es := by
    show massL _ (DataW.insert (kl, d) (es.filter fun p => !p.1.sameKey kl)) = _
    rw [massL_insert, massL_filter (g := fun z => !z.sameKey kl)]
  rw [e]
  by_cases hh : Maps.has (DataW.map es) kl = true
  · have := hst hh
    simp only [massLeft, Bool.true_and] at this
    rw [if_pos hh]
    show _ = massL _ es
    rw [← this]; omega
  · rw [if_neg hh]
    have hm : massL (fun z => !z.sameKey kl) es = massL (fun _ => true) es := massL_congr fun p hp => by
      have : p.1.sameKey kl = false := by
        rw [Bool.eq_false_iff]
        intro hs
        exact hh (List.any_eq_true.2 ⟨p, hp, hs⟩)
      rw [this]; rfl
    rw [hm]
    show _ = massL _ es + _
    omega
end

/-! ### the keys are the first k names -/
def keyAt (ss : Nat → ByteArray) (j : Nat) : Lit := .string (ss j).data.toList
def isIn (ss : Nat → ByteArray) : Nat → Lit → Bool
  | 0, _ => false
  | k + 1, kl => isIn ss k kl || (keyAt ss k).sameKey kl
def massN (ss : Nat → ByteArray) : Nat → Nat
  | 0 => 0
  | k + 1 => if isIn ss k (keyAt ss k) = true then massN ss k else massN ss k + (11 + (ss k).size)
theorem keyLen_at (ss : Nat → ByteArray) (j : Nat) : keyLen (keyAt ss j) = (ss j).size := rfl
theorem isKey_at (ss : Nat → ByteArray) (j : Nat) : WideAt.IsKeyLit (keyAt ss j) := trivial
theorem massN_le (ss : Nat → ByteArray) (k : Nat) : massN ss k ≤ 11 * k + sumN (fun j => (ss j).size) k := by
  induction k with
  | zero => exact Nat.zero_le _
  | succ k ih => simp only [massN, sumN]; split <;> omega

def KeysAre (w : World) (b n : Nat) (ss : Nat → ByteArray) (k : Nat) : Prop :=
  ∃ D, OwnsKept w b n D ∧ mass D = massN ss k ∧ ∀ kl, Maps.has D kl = isIn ss k kl
theorem keys_put {w w' : World} {b n n' : Nat} {D : DataW Unit} {ss : Nat → ByteArray} {k : Nat} (h : OwnsKept w b n D) (hm : mass D = massN ss k) (hh : ∀ kl, Maps.has D kl = isIn ss k kl) {d : DataW Unit}
    (h' : OwnsKept w' b n' (D.put (keyAt ss k) d)) : KeysAre w' b n' ss (k + 1) := by
  refine ⟨_, h', ?_, fun kl => ?_⟩
  · rw [mass_put h (keyAt ss k), hh, hm, keyLen_at]
    simp only [massN]
  · simp only [isIn]
    by_cases e : kl = keyAt ss k
    · subst e
      rw [has_put_same (World.ownsMap.isMap h) (isKey_at ss k), WideAt.sameKey_self (isKey_at ss k)]; simp
    · rw [has_put_other e, hh, sameKey_ne (fun e' => e e'.symm)]; simp
theorem KeysAre.later {w wx : World} {b n : Nat} {ss : Nat → ByteArray} {k : Nat} (h : KeysAre w b n ss k) (hb : Below w.heap.size w wx) : KeysAre wx b n ss k := by
  obtain ⟨D, ⟨es, clock, h1, rest⟩, h2⟩ := h
  exact ⟨D, ⟨es, clock, (hb.block b (Array.getElem?_eq_some_iff.1 h1).1).trans h1, rest⟩, h2⟩
theorem own_later {w wx : World} {b n : Nat} {D : DataW Unit} (h : OwnsKept w b n D) (hb : Below w.heap.size w wx) : OwnsKept wx b n D := by
  obtain ⟨es, clock, h1, rest⟩ := h
  exact ⟨es, clock, (hb.block b (Array.getElem?_eq_some_iff.1 h1).1).trans h1, rest⟩

theorem isIn_congr {ss tt : Nat → ByteArray} {k : Nat} (h : ∀ j, j < k → ss j = tt j) (kl : Lit) : isIn ss k kl = isIn tt k kl := by
  induction k with
  | zero => rfl
  | succ k ih => simp only [isIn, keyAt]; rw [ih (fun j hj => h j (by omega)), h k (by omega)]
theorem massN_congr {ss tt : Nat → ByteArray} {k : Nat} (h : ∀ j, j < k → ss j = tt j) : massN ss k = massN tt k := by
  induction k with
  | zero => rfl
  | succ k ih =>
    simp only [massN]
    rw [ih (fun j hj => h j (by omega)), isIn_congr (fun j hj => h j (by omega)), keyAt, keyAt, h k (by omega)]
/-- Names of which no two are one. -/
theorem massN_apart {ss : Nat → ByteArray} {k : Nat} (h : ∀ i j, j < i → i < k → ss j ≠ ss i) : massN ss k = 11 * k + sumN (fun j => (ss j).size) k := by
  have hin : ∀ i, i < k → isIn ss i (keyAt ss i) = false := by
    intro i hi
    have : ∀ m, m ≤ i → isIn ss m (keyAt ss i) = false := by
      intro m
      induction m with
      | zero => intro _; rfl
      | succ m ih =>
        intro hm
        simp only [isIn]
        rw [ih (by omega), sameKey_ne]
        · rfl
        · intro e
          apply h i m (by omega) hi
          unfold keyAt at e
          injection e with e
          cases hA : ss m with | mk a => cases hB : ss i with | mk b =>
            rw [hA, hB] at e
            simp at e
            rw [e]
    exact this i (Nat.le_refl _)
  induction k with
  | zero => rfl
  | succ k ih =>
    simp only [massN, sumN]
    rw [hin k (by omega), ih (fun i j h1 h2 => h i j h1 (by omega)) (fun i hi => hin i (by omega))]
    simp; omega

end Go.Proofs.Qxb6605389aMods
