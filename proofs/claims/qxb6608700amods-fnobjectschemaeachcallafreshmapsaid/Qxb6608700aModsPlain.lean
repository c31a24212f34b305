/-
  The plain laws: a map that was filled property by property; how many names differ; the last value of a name; the schema's own map. No Go in sight.
-/
import Derived.Maps.OwnSet
namespace Go.Proofs.Qxb6608700aMods
open Go.Maps

/-- The key that a string is. -/
def key (s : ByteArray) : Lit := .string s.data.toList
theorem keyLit (s : ByteArray) : WideAt.IsKeyLit (key s) := by unfold key; trivial
theorem key_eq {a b : ByteArray} (h : (a.toList == b.toList) = true) : key a = key b := by
  have h' := eq_of_beq h
  rw [ByteArray.toList_eq, ByteArray.toList_eq] at h'
  unfold key
  rw [h']
theorem key_ne {a b : ByteArray} (h : (a.toList == b.toList) = false) : key a ≠ key b := by
  intro e
  unfold key at e
  injection e with e
  have := beq_eq_false_iff_ne.1 h
  rw [ByteArray.toList_eq, ByteArray.toList_eq] at this
  exact this e
theorem same_refl (a : ByteArray) : (a.toList == a.toList) = true := by simp

/-- A string as an interface value holds it. -/
def txt (s : ByteArray) : DataW Value := .held (.iface 9 (.string s))

/-- 'zzBuildProps' after k rounds. -/
def built (N V : Nat → ByteArray) : Nat → DataW Value
  | 0 => .map []
  | k + 1 => (built N V k).put (key (N k)) (txt (V k))
/-- 'zzLastValue' over the first k. -/
def lastVal (N V : Nat → ByteArray) (s : ByteArray) : Nat → ByteArray
  | 0 => ⟨#[]⟩
  | k + 1 => if (N k).toList == s.toList then V k else lastVal N V s k
/-- is there a j, i < j < m, of the same name? -/
def dup (N : Nat → ByteArray) (i : Nat) : Nat → Bool
  | 0 => false
  | m + 1 => dup N i m || (decide (i < m) && (N m).toList == (N i).toList)
/-- 'zzDistinctNames' after k rounds of the outer loop. -/
def cntD (N : Nat → ByteArray) (len : Nat) : Nat → Nat
  | 0 => 0
  | k + 1 => cntD N len k + (if dup N k len then 0 else 1)
/-- does s stand among the first k names? -/
def seen (N : Nat → ByteArray) (s : ByteArray) : Nat → Bool
  | 0 => false
  | k + 1 => seen N s k || (N k).toList == s.toList

theorem built_tidy (N V : Nat → ByteArray) : ∀ k, Tidy (built N V k)
  | 0 => tidy_empty
  | k + 1 => (built_tidy N V k).put (keyLit _) _
theorem has_built (N V : Nat → ByteArray) (s : ByteArray) : ∀ k, has (built N V k) (key s) = seen N s k
  | 0 => rfl
  | k + 1 => by
    show has ((built N V k).put (key (N k)) (txt (V k))) (key s) = (seen N s k || (N k).toList == s.toList)
    cases h : ((N k).toList == s.toList)
    · rw [has_put_other (Ne.symm (key_ne h)), has_built N V s k]; simp
    · rw [← key_eq h, has_put_same (built_tidy N V k).isMap (keyLit _)]; simp
theorem at_built (N V : Nat → ByteArray) (s : ByteArray) (z : DataW Value) : ∀ k, seen N s k = true → (built N V k).atKey (key s) z = txt (lastVal N V s k)
  | 0, h => by cases h
  | k + 1, h => by
    show ((built N V k).put (key (N k)) (txt (V k))).atKey (key s) z = txt (if (N k).toList == s.toList then V k else lastVal N V s k)
    cases e : ((N k).toList == s.toList)
    · rw [atKey_put_other (Ne.symm (key_ne e)), at_built N V s z k (by simpa [seen, e] using h)]; simp
    · rw [← key_eq e, atKey_put_same (built_tidy N V k).isMap (keyLit _)]; simp
theorem seen_of (N : Nat → ByteArray) (s : ByteArray) : ∀ k j, j < k → ((N j).toList == s.toList) = true → seen N s k = true
  | 0, j, h, _ => by omega
  | k + 1, j, h, e => by
    by_cases hj : j = k
    · subst hj; simp [seen, e]
    · simp [seen, seen_of N s k j (by omega) e]
theorem seen_self (N : Nat → ByteArray) {k j : Nat} (h : j < k) : seen N (N j) k = true := seen_of N _ k j h (same_refl _)

theorem size_built (N V : Nat → ByteArray) (k : Nat) : size (built N V (k + 1)) = size (built N V k) + (if seen N (N k) k then 0 else 1) := by
  show size ((built N V k).put (key (N k)) (txt (V k))) = _
  rw [size_put (built_tidy N V k), has_built]
  cases seen N (N k) k <;> simp

/-! ### how many names differ: first places and last places are as many -/
theorem dup_iff (N : Nat → ByteArray) (i : Nat) : ∀ m, dup N i m = true ↔ ∃ j, i < j ∧ j < m ∧ (N j).toList = (N i).toList
  | 0 => by simp [dup]
  | m + 1 => by
    simp only [dup, Bool.or_eq_true, Bool.and_eq_true, decide_eq_true_eq, beq_iff_eq]
    rw [dup_iff N i m]
    constructor
    · rintro (⟨j, h1, h2, h3⟩ | ⟨h1, h2⟩)
      · exact ⟨j, h1, by omega, h3⟩
      · exact ⟨m, h1, by omega, h2⟩
    · rintro ⟨j, h1, h2, h3⟩
      by_cases e : j = m
      · subst e; exact .inr ⟨h1, h3⟩
      · exact .inl ⟨j, h1, by omega, h3⟩
theorem dup_start (N : Nat → ByteArray) (i : Nat) : dup N i (i + 1) = false := by
  cases h : dup N i (i + 1)
  · rfl
  · obtain ⟨j, h1, h2, _⟩ := (dup_iff N i _).1 h; omega
theorem dup_succ (N : Nat → ByteArray) (i m : Nat) (h : i < m) : dup N i (m + 1) = (dup N i m || (N m).toList == (N i).toList) := by simp [dup, h]
/-- of the first k those that are, among the first m, the last of the name s -/
def lastOf (N : Nat → ByteArray) (s : ByteArray) (m : Nat) : Nat → Nat
  | 0 => 0
  | k + 1 => lastOf N s m k + (if !dup N k m && (s.toList == (N k).toList) then 1 else 0)
open Classical in
theorem lastOf_eq (N : Nat → ByteArray) (s : ByteArray) (m : Nat) : ∀ k, k ≤ m → lastOf N s m k = if seen N s k = true ∧ ¬ ∃ j, k ≤ j ∧ j < m ∧ (N j).toList = s.toList then 1 else 0
  | 0, _ => by simp [lastOf, seen]
  | k + 1, h => by
    unfold lastOf
    rw [lastOf_eq N s m k (by omega)]
    by_cases e : (N k).toList = s.toList
    · have h1 : ¬ (seen N s k = true ∧ ¬ ∃ j, k ≤ j ∧ j < m ∧ (N j).toList = s.toList) := fun ⟨_, h2⟩ => h2 ⟨k, Nat.le_refl _, by omega, e⟩
      rw [if_neg h1]
      have hs : seen N s (k + 1) = true := by simp [seen, e]
      by_cases a : ∃ j, k + 1 ≤ j ∧ j < m ∧ (N j).toList = s.toList
      · have hd : dup N k m = true := (dup_iff N k m).2 (by obtain ⟨j, x, y, z⟩ := a; exact ⟨j, by omega, y, by rw [z, e]⟩)
        rw [hd, if_neg (show ¬ (seen N s (k + 1) = true ∧ ¬ ∃ j, k + 1 ≤ j ∧ j < m ∧ (N j).toList = s.toList) from fun q => q.2 a)]
        rfl
      · have hd : dup N k m = false := by
          cases q : dup N k m
          · rfl
          · obtain ⟨j, x, y, z⟩ := (dup_iff N k m).1 q; exact absurd ⟨j, by omega, y, by rw [z, e]⟩ a
        rw [hd, e, if_pos (show (seen N s (k + 1) = true ∧ ¬ ∃ j, k + 1 ≤ j ∧ j < m ∧ (N j).toList = s.toList) from ⟨hs, a⟩)]
        simp
    · have hs : seen N s (k + 1) = seen N s k := by simp [seen, e]
      have ha : (∃ j, k ≤ j ∧ j < m ∧ (N j).toList = s.toList) ↔ ∃ j, k + 1 ≤ j ∧ j < m ∧ (N j).toList = s.toList := by
        constructor
        · rintro ⟨j, x, y, z⟩
          by_cases q : j = k
          · subst q; exact absurd z e
          · exact ⟨j, by omega, y, z⟩
        · rintro ⟨j, x, y, z⟩
          exact ⟨j, by omega, y, z⟩
      have e2 : (s.toList == (N k).toList) = false := beq_eq_false_iff_ne.2 (fun q => e q.symm)
      rw [hs, ha, e2]
      simp
theorem cnt_more (N : Nat → ByteArray) (m : Nat) : ∀ k, k ≤ m → cntD N (m + 1) k + lastOf N (N m) m k = cntD N m k
  | 0, _ => rfl
  | k + 1, h => by
    have ih := cnt_more N m k (by omega)
    unfold cntD lastOf
    rw [dup_succ N k m (by omega)]
    cases h1 : dup N k m <;> cases h2 : ((N m).toList == (N k).toList) <;> simp <;> omega
open Classical in
theorem cnt_succ (N : Nat → ByteArray) (m : Nat) : cntD N (m + 1) (m + 1) = cntD N m m + (if seen N (N m) m then 0 else 1) := by
  have h := cnt_more N m m (Nat.le_refl _)
  rw [lastOf_eq N (N m) m m (Nat.le_refl _)] at h
  have ha : ¬ ∃ j, m ≤ j ∧ j < m ∧ (N j).toList = (N m).toList := by rintro ⟨j, x, y, _⟩; omega
  show cntD N (m + 1) m + (if dup N m (m + 1) then 0 else 1) = _
  rw [dup_start]
  cases hs : seen N (N m) m
  · rw [if_neg (fun q => by rw [hs] at q; exact absurd q.1 (by simp))] at h
    simp; omega
  · rw [if_pos ⟨hs, ha⟩] at h
    simp; omega
/-- THE LAW: the map holds as many entries as there are names. -/
theorem size_is_cnt (N V : Nat → ByteArray) : ∀ m, size (built N V m) = cntD N m m
  | 0 => rfl
  | m + 1 => by rw [size_built, size_is_cnt N V m, cnt_succ]
theorem cntD_le (N : Nat → ByteArray) (len : Nat) : ∀ k, cntD N len k ≤ k
  | 0 => Nat.le_refl _
  | k + 1 => by have := cntD_le N len k; unfold cntD; split <;> omega

/-! ### the schema's own map -/
def kType : ByteArray := ⟨#[116, 121, 112, 101]⟩
def kProps : ByteArray := ⟨#[112, 114, 111, 112, 101, 114, 116, 105, 101, 115]⟩
def kAdd : ByteArray := ⟨#[97, 100, 100, 105, 116, 105, 111, 110, 97, 108, 80, 114, 111, 112, 101, 114, 116, 105, 101, 115]⟩
def kReq : ByteArray := ⟨#[114, 101, 113, 117, 105, 114, 101, 100]⟩
def tObject : ByteArray := ⟨#[111, 98, 106, 101, 99, 116]⟩
/-- 'objectSchema' of the properties at block p, with nothing required. -/
def schema3 (p : Nat) : DataW Value :=
  (((DataW.map []).put (key kType) (txt tObject)).put (key kProps) (.held (.iface 28 (.map (some p))))).put (key kAdd) (.held (.iface 4 (.bool false)))
/-- .. with the list v required. -/
def schema4 (p : Nat) (v : Value) : DataW Value := (schema3 p).put (key kReq) (.held (.iface 36 v))
/-- .. by whether something is required. -/
def schema (p : Nat) (v : Value) (req : Bool) : DataW Value := if req then schema4 p v else schema3 p
def want (req : Bool) : Nat := if req then 4 else 3
def known (req : Bool) (s : ByteArray) : Bool :=
  (s.toList == kType.toList) || (s.toList == kProps.toList) || (s.toList == kAdd.toList) || ((s.toList == kReq.toList) && req)

theorem key_inj {a b : ByteArray} (h : a.data.toList ≠ b.data.toList) : key a ≠ key b := by
  intro e; unfold key at e; injection e with e; exact h e
theorem schema3_tidy (p : Nat) : Tidy (schema3 p) := ((tidy_empty.put (keyLit _) _).put (keyLit _) _).put (keyLit _) _
theorem schema_tidy (p : Nat) (v : Value) (req : Bool) : Tidy (schema p v req) := by
  unfold schema
  split
  · exact (schema3_tidy p).put (keyLit _) _
  · exact schema3_tidy p
theorem has3 (p : Nat) (s : ByteArray) : has (schema3 p) (key s) = ((s.toList == kType.toList) || (s.toList == kProps.toList) || (s.toList == kAdd.toList)) := by
  unfold schema3
  cases h3 : (s.toList == kAdd.toList)
  · rw [has_put_other (key_ne h3)]
    cases h2 : (s.toList == kProps.toList)
    · rw [has_put_other (key_ne h2)]
      cases h1 : (s.toList == kType.toList)
      · rw [has_put_other (key_ne h1)]; rfl
      · rw [key_eq h1, has_put_same tidy_empty.isMap (keyLit _)]; rfl
    · rw [key_eq h2, has_put_same (tidy_empty.put (keyLit _) _).isMap (keyLit _)]; simp
  · rw [key_eq h3, has_put_same ((tidy_empty.put (keyLit _) _).put (keyLit _) _).isMap (keyLit _)]; simp
theorem has_schema (p : Nat) (v : Value) (req : Bool) (s : ByteArray) : has (schema p v req) (key s) = known req s := by
  unfold schema known
  cases req
  · simp [has3]
  · simp only [if_true, schema4]
    cases h4 : (s.toList == kReq.toList)
    · rw [has_put_other (key_ne h4), has3]; simp
    · rw [key_eq h4, has_put_same (schema3_tidy p).isMap (keyLit _)]; simp
theorem size3 (p : Nat) : size (schema3 p) = 3 := by
  unfold schema3
  rw [size_put ((tidy_empty.put (keyLit _) _).put (keyLit _) _), has_put_other (key_inj (by decide)), has_put_other (key_inj (by decide)), size_put (tidy_empty.put (keyLit _) _), has_put_other (key_inj (by decide)), size_put tidy_empty]
  rfl
theorem size_schema (p : Nat) (v : Value) (req : Bool) : size (schema p v req) = want req := by
  unfold schema want
  cases req
  · simp [size3]
  · simp only [if_true, schema4]
    rw [size_put (schema3_tidy p), has3, size3]
    simp only [ByteArray.toList_eq]
    decide
theorem size_put_schema (p : Nat) (v : Value) (req : Bool) (s : ByteArray) (d : DataW Value) : size ((schema p v req).put (key s) d) = if known req s then want req else want req + 1 := by
  rw [size_put (schema_tidy p v req), has_schema, size_schema]
theorem at3 (p : Nat) (z : DataW Value) : (schema3 p).atKey (key kType) z = txt tObject ∧ (schema3 p).atKey (key kProps) z = .held (.iface 28 (.map (some p))) ∧ (schema3 p).atKey (key kAdd) z = .held (.iface 4 (.bool false)) := by
  unfold schema3
  refine ⟨?_, ?_, ?_⟩
  · rw [atKey_put_other (key_inj (by decide)), atKey_put_other (key_inj (by decide)), atKey_put_same tidy_empty.isMap (keyLit _)]
  · rw [atKey_put_other (key_inj (by decide)), atKey_put_same (tidy_empty.put (keyLit _) _).isMap (keyLit _)]
  · rw [atKey_put_same ((tidy_empty.put (keyLit _) _).put (keyLit _) _).isMap (keyLit _)]
theorem at_schema (p : Nat) (v : Value) (req : Bool) (z : DataW Value) : (schema p v req).atKey (key kType) z = txt tObject ∧ (schema p v req).atKey (key kProps) z = .held (.iface 28 (.map (some p))) ∧ (schema p v req).atKey (key kAdd) z = .held (.iface 4 (.bool false)) := by
  unfold schema
  cases req
  · exact at3 p z
  · simp only [if_true, schema4]
    rw [atKey_put_other (key_inj (by decide)), atKey_put_other (key_inj (by decide)), atKey_put_other (key_inj (by decide))]
    exact at3 p z
theorem at_req (p : Nat) (v : Value) (z : DataW Value) : (schema p v true).atKey (key kReq) z = .held (.iface 36 v) := by
  show ((schema3 p).put (key kReq) (.held (.iface 36 v))).atKey (key kReq) z = _
  rw [atKey_put_same (schema3_tidy p).isMap (keyLit _)]
end Go.Proofs.Qxb6608700aMods
