/-
  Seat oebp. THE PLAIN MODEL: what a script makes of a name; how many names there are; that the module map and the list agree with it. No walk here.
-/
import Derived.Test.YoebpwFind
namespace Go.Proofs.Yoebpw
open Go.RowKit Go.Maps
set_option linter.unusedVariables false

/-- What stands at each name: nothing, or a kind and a payload. -/
abbrev MState := ByteArray → Option (Int × ByteArray)
def upd (M : MState) (n : ByteArray) (r : Option (Int × ByteArray)) : MState := fun s => if s = n then r else M s

theorem upd_same (M : MState) (n : ByteArray) (r : Option (Int × ByteArray)) : upd M n r n = r := by simp [upd]
theorem upd_other {M : MState} {n s : ByteArray} (h : s ≠ n) (r : Option (Int × ByteArray)) : upd M n r s = M s := by simp [upd, h]

/-- The state and the count after the first k operations. -/
def modelTo (zs : List Int) (ss1 ss2 : List ByteArray) : Nat → MState
  | 0 => fun _ => none
  | k + 1 => upd (modelTo zs ss1 ss2 k) (opStr ss1 k) (if opInt zs k % 3 = 2 then none else some (opInt zs k % 3, opStr ss2 k))
def countTo (zs : List Int) (ss1 ss2 : List ByteArray) : Nat → Nat
  | 0 => 0
  | k + 1 => if opInt zs k % 3 = 2 then (if (modelTo zs ss1 ss2 k (opStr ss1 k)).isSome then countTo zs ss1 ss2 k - 1 else countTo zs ss1 ss2 k)
      else (if (modelTo zs ss1 ss2 k (opStr ss1 k)).isSome then countTo zs ss1 ss2 k else countTo zs ss1 ss2 k + 1)

/-! ### the module map's side -/
def Agrees (w : World) (D : DataW Value) (s : ByteArray) : Option (Int × ByteArray) → Prop
  | none => look D s.data.toList = none
  | some (kd, pay) => ∃ v, look D s.data.toList = some v ∧ Holds w v kd pay

/-- The map after k operations. -/
def MapInv (zs : List Int) (ss1 ss2 : List ByteArray) (k : Nat) (w : World) (D : DataW Value) : Prop :=
  Maps.size D = countTo zs ss1 ss2 k ∧ ∀ s, Agrees w D s (modelTo zs ss1 ss2 k s)

theorem Agrees.kept {w w' : World} {b n : Nat} {D0 D D' : DataW Value} {s : ByteArray} {r : Option (Int × ByteArray)} (h : Agrees w D s r) (hm : MapAt w b n D0) (hg : w.grownBy w' (some b)) (hl : look D' s.data.toList = look D s.data.toList) : Agrees w' D' s r := by
  cases r with
  | none => exact hl.trans h
  | some x =>
    obtain ⟨kd, pay⟩ := x
    obtain ⟨v, hv, hol⟩ := h
    exact ⟨v, hl.trans hv, hol.kept hm hg⟩

theorem Agrees.isSome {w : World} {D : DataW Value} {s : ByteArray} {r : Option (Int × ByteArray)} (h : Agrees w D s r) : (look D s.data.toList).isSome = r.isSome := by
  cases r with
  | none => rw [show look D s.data.toList = none from h]; rfl
  | some x =>
    obtain ⟨kd, pay⟩ := x
    obtain ⟨v, hv, _⟩ := h
    rw [hv]; rfl

theorem name_ne {s t : ByteArray} (h : s ≠ t) : s.data.toList ≠ t.data.toList := fun e => h (WideShapes.bytes_inj e)

theorem keeps_model (b n : Nat) (zs : List Int) (ss1 ss2 : List ByteArray) (skip : ByteArray) (hn : ∀ i, (opStr ss1 i).size ≤ maxLen) : Keeps b n zs ss1 ss2 false skip (MapInv zs ss1 ss2) := by
  refine ⟨fun k wr D _ hs _ => (by cases hs.1), fun k wr m D w1 v _ _ hk hm hg hol hI => ?_, fun k wr m D w1 _ _ hk hm hg hI => ?_⟩
  · obtain ⟨hc, hA⟩ := hI
    have hhas := (hm.lookup (hn k)).2.1
    refine ⟨?_, fun s => ?_⟩
    · show Maps.size (D.put (.string (opStr ss1 k).data.toList) (.held v)) = _
      rw [Maps.size_put hm.tidy, hhas, (hA (opStr ss1 k)).isSome, hc]
      simp only [countTo, if_neg hk]
    · simp only [modelTo, if_neg hk]
      by_cases e : s = opStr ss1 k
      · subst e
        rw [upd_same]
        exact ⟨v, look_put_same hm.tidy.isMap _ _, hol⟩
      · rw [upd_other e]
        exact (hA s).kept hm hg (look_put_other (name_ne e) _)
  · obtain ⟨hc, hA⟩ := hI
    have hhas := (hm.lookup (hn k)).2.1
    refine ⟨?_, fun s => ?_⟩
    · show Maps.size (D.del (.string (opStr ss1 k).data.toList)) = _
      have := Maps.size_del (k := .string (opStr ss1 k).data.toList) hm.tidy
      rw [hhas, (hA (opStr ss1 k)).isSome, hc] at this
      simp only [countTo, if_pos hk]
      split <;> simp_all
      omega
    · simp only [modelTo, if_pos hk]
      by_cases e : s = opStr ss1 k
      · subst e
        rw [upd_same]
        exact look_del_same _ _
      · rw [upd_other e]
        exact (hA s).kept hm hg (look_del_other (name_ne e))

theorem mapInv_start (zs : List Int) (ss1 ss2 : List ByteArray) (w : World) : MapInv zs ss1 ss2 0 w (.map []) := ⟨rfl, fun s => rfl⟩

/-! ### the list's side -/
/-- n entries, entry i being 'f i', say what M says. -/
structure LInv (M : MState) (c n : Nat) (f : Nat → Ent) : Prop where
  len : n = c
  hit : ∀ i, i < n → M (f i).1 = some (f i).2
  all : ∀ s, M s ≠ none → ∃ i, i < n ∧ (f i).1 = s
  inj : ∀ i j, i < n → j < n → (f i).1 = (f j).1 → i = j

theorem LInv.start (zs : List Int) (ss1 ss2 : List ByteArray) (f : Nat → Ent) : LInv (modelTo zs ss1 ss2 0) (countTo zs ss1 ss2 0) 0 f :=
  ⟨rfl, fun i hi => by omega, fun s hs => absurd rfl hs, fun i j hi => by omega⟩

theorem LInv.there {M : MState} {c n : Nat} {f : Nat → Ent} (h : LInv M c n f) {s : ByteArray} (hs : ∃ i, i < n ∧ (f i).1 = s) : (M s).isSome = true := by
  obtain ⟨i, hi, rfl⟩ := hs
  rw [h.hit i hi]; rfl

theorem LInv.absent {M : MState} {c n : Nat} {f : Nat → Ent} (h : LInv M c n f) {s : ByteArray} (hs : ∀ i, i < n → (f i).1 ≠ s) : M s = none := by
  cases hM : M s with
  | none => rfl
  | some x =>
    obtain ⟨i, hi, e⟩ := h.all s (by rw [hM]; simp)
    exact absurd e (hs i hi)

/-- An entry at a name that was not there. -/
theorem LInv.push {M : MState} {c n : Nat} {f : Nat → Ent} (h : LInv M c n f) (x : Ent) (hx : ∀ i, i < n → (f i).1 ≠ x.1) : LInv (upd M x.1 (some x.2)) (c + 1) (n + 1) (fun i => if i = n then x else f i) := by
  refine ⟨by rw [h.len], fun i hi => ?_, fun s hs => ?_, fun i j hi hj e => ?_⟩
  · by_cases e : i = n
    · simp only [if_pos e]; rw [upd_same]
    · simp only [if_neg e]; rw [upd_other (hx i (by omega))]; exact h.hit i (by omega)
  · by_cases e : s = x.1
    · exact ⟨n, by omega, by simp only [if_pos]; exact e.symm⟩
    · rw [upd_other e] at hs
      obtain ⟨i, hi, rfl⟩ := h.all s hs
      exact ⟨i, by omega, by rw [if_neg (by omega)]⟩
  · by_cases ei : i = n <;> by_cases ej : j = n
    · omega
    · simp only [if_pos ei, if_neg ej] at e; exact absurd e.symm (hx j (by omega))
    · simp only [if_neg ei, if_pos ej] at e; exact absurd e (hx i (by omega))
    · simp only [if_neg ei, if_neg ej] at e; exact h.inj i j (by omega) (by omega) e

/-- An entry put in the place of the one of its name. -/
theorem LInv.put {M : MState} {c n : Nat} {f : Nat → Ent} (h : LInv M c n f) (x : Ent) {j : Nat} (hj : j < n) (hx : (f j).1 = x.1) : LInv (upd M x.1 (some x.2)) c n (fun i => if i = j then x else f i) := by
  have hne : ∀ i, i < n → i ≠ j → (f i).1 ≠ x.1 := fun i hi e ee => e (h.inj i j hi hj (ee.trans hx.symm))
  refine ⟨h.len, fun i hi => ?_, fun s hs => ?_, fun i k hi hk e => ?_⟩
  · by_cases e : i = j
    · simp only [if_pos e]; rw [upd_same]
    · simp only [if_neg e]; rw [upd_other (hne i hi e)]; exact h.hit i hi
  · by_cases e : s = x.1
    · exact ⟨j, hj, by simp only [if_pos]; exact e.symm⟩
    · rw [upd_other e] at hs
      obtain ⟨i, hi, rfl⟩ := h.all s hs
      exact ⟨i, hi, by rw [if_neg (fun ee => e (by rw [ee, hx]))]⟩
  · by_cases ei : i = j <;> by_cases ek : k = j
    · omega
    · simp only [if_pos ei, if_neg ek] at e; exact absurd e.symm (hne k hk ek)
    · simp only [if_neg ei, if_pos ek] at e; exact absurd e (hne i hi ei)
    · simp only [if_neg ei, if_neg ek] at e; exact h.inj i k hi hk e

/-- The last entry moved into the place of the one that goes. -/
theorem LInv.drop {M : MState} {c n : Nat} {f : Nat → Ent} (h : LInv M c n f) {j : Nat} (hj : j < n) : LInv (upd M (f j).1 none) (c - 1) (n - 1) (fun i => if i = j then f (n - 1) else f i) := by
  refine ⟨by rw [h.len], fun i hi => ?_, fun s hs => ?_, fun i k hi hk e => ?_⟩
  · by_cases e : i = j
    · simp only [if_pos e]
      rw [upd_other (fun ee => by have := h.inj (n - 1) j (by omega) hj ee; omega)]
      exact h.hit (n - 1) (by omega)
    · simp only [if_neg e]
      rw [upd_other (fun ee => e (h.inj i j (by omega) hj ee))]
      exact h.hit i (by omega)
  · by_cases e : s = (f j).1
    · subst e; rw [upd_same] at hs; exact absurd rfl hs
    · rw [upd_other e] at hs
      obtain ⟨i, hi, rfl⟩ := h.all s hs
      have hij : i ≠ j := fun ee => e (by rw [ee])
      by_cases el : i = n - 1
      · exact ⟨j, by omega, by rw [if_pos rfl, el]⟩
      · exact ⟨i, by omega, by rw [if_neg hij]⟩
  · by_cases ei : i = j <;> by_cases ek : k = j
    · omega
    · simp only [if_pos ei, if_neg ek] at e
      have := h.inj (n - 1) k (by omega) (by omega) e
      omega
    · simp only [if_neg ei, if_pos ek] at e
      have := h.inj i (n - 1) (by omega) (by omega) e
      omega
    · simp only [if_neg ei, if_neg ek] at e; exact h.inj i k (by omega) (by omega) e

/-- Nothing goes where nothing stands. -/
theorem LInv.stay {M : MState} {c n : Nat} {f : Nat → Ent} (h : LInv M c n f) {s : ByteArray} (hs : ∀ i, i < n → (f i).1 ≠ s) : LInv (upd M s none) c n f := by
  have hM := h.absent hs
  have e : upd M s none = M := by
    funext t
    by_cases et : t = s
    · subst et; rw [upd_same, hM]
    · rw [upd_other et]
  rw [e]; exact h

end Go.Proofs.Yoebpw
