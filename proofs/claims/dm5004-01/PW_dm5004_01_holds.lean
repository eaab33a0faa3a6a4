import PyProof.Rows.All
import Wide.All
import OpenK.AllK
import Wide.FinOn
import PyProof.Rows.StrSplitJoin
import PySem.Challenge.RW_dm5004_01
section
open PySem PySem.W PyProof.Rows
set_option Elab.async false
namespace Mine
set_option maxRecDepth 100000 in
set_option maxHeartbeats 8000000 in
open_top hd for PySem.Challenge.rw_dm5004_01
end Mine
end
section
set_option Elab.async false
namespace Mine

/-! the plain law: texts as lists of signs' numbers -/
def hexd (k : Nat) : Nat := if k < 10 then 48 + k else 55 + k
def safeB (c : Nat) : Bool := c == 9 || c == 10 || c == 13 || (decide (32 ≤ c) && decide (c ≤ 126) && c != 61)
def esc (c : Nat) : List Nat := [61, hexd (c / 16), hexd (c % 16)]
def enc1 (c : Nat) : List Nat := if safeB c then [c] else esc c
def encT (u : List Nat) : List Nat := u.flatMap enc1

def splitNL : List Nat → List (List Nat)
  | [] => [[]]
  | c :: r => if c = 10 then [] :: splitNL r else (c :: (splitNL r).headD []) :: (splitNL r).tail
def joinNL : List (List Nat) → List Nat
  | [] => []
  | [x] => x
  | x :: y :: r => x ++ 10 :: joinNL (y :: r)

def isBl (c : Nat) : Bool := c == 32 || c == 9
def finRow (n : Nat) (l : List Nat) : List Nat :=
  match l.getLast? with
  | none => []
  | some c => if isBl c then
      (if l.length + 2 ≤ n then l.dropLast ++ esc c
       else if l.length + 1 = n then l ++ [61, 10]
       else l.dropLast ++ [61, 10] ++ esc c)
    else l
def rowsOf (n : Nat) (l : List Nat) : List (List Nat) :=
  if h : n + 1 ≤ l.length ∧ 4 ≤ n then
    if l[n - 3]? = some 61 then l.take (n - 2) :: rowsOf n (l.drop (n - 3))
    else if l[n - 2]? = some 61 then l.take (n - 1) :: rowsOf n (l.drop (n - 2))
    else (l.take (n - 1) ++ [61]) :: rowsOf n (l.drop (n - 1))
  else [finRow n l]
termination_by l.length
decreasing_by all_goals (simp only [List.length_drop]; omega)
def encL (n : Nat) (u : List Nat) : List Nat := joinNL ((splitNL (encT u)).flatMap (rowsOf n))

def isHex (c : Nat) : Bool := (decide (48 ≤ c) && decide (c ≤ 57)) || (decide (97 ≤ c) && decide (c ≤ 102)) || (decide (65 ≤ c) && decide (c ≤ 70))
def hexv (c : Nat) : Nat := if c ≤ 57 then c - 48 else if c ≤ 70 then c - 55 else c - 87
def decW : List Nat → List Nat
  | [] => []
  | [c] => if c = 61 then [] else [c, 10]
  | [c, d] => c :: decW [d]
  | c :: h1 :: h2 :: r =>
    if c = 61 ∧ isHex h1 = true ∧ isHex h2 = true then (16 * hexv h1 + hexv h2) :: (if r = [] then [10] else decW r)
    else c :: decW (h1 :: h2 :: r)
def rstripL (l : List Nat) : List Nat := (l.reverse.dropWhile PySem.Unicode.isSpace).reverse
def decLine (l : List Nat) : List Nat := if rstripL l = [] then [10] else decW (rstripL l)
def linesNL (e : List Nat) : List (List Nat) := if (splitNL e).getLast? = some [] then (splitNL e).dropLast else splitNL e
def endStrip (e d : List Nat) : List Nat := if e.getLast? ≠ some 10 ∧ e.getLast? ≠ some 13 ∧ d.getLast? = some 10 then d.dropLast else d
def decL (e : List Nat) : List Nat := if e = [] then [] else endStrip e ((linesNL e).flatMap decLine)

/-! splitNL, joinNL -/
theorem splitNL_ne (l : List Nat) : splitNL l ≠ [] := by
  cases l with
  | nil => simp [splitNL]
  | cons c r => unfold splitNL; split <;> simp
theorem splitNL_cons_ne {c : Nat} (h : c ≠ 10) (r : List Nat) : ∃ x t, splitNL r = x :: t ∧ splitNL (c :: r) = (c :: x) :: t := by
  cases e : splitNL r with
  | nil => exact absurd e (splitNL_ne r)
  | cons x t => exact ⟨x, t, rfl, by simp [splitNL, h, e]⟩
theorem splitNL_nl (r : List Nat) : splitNL (10 :: r) = [] :: splitNL r := by simp [splitNL]
theorem joinNL_cons (x : List Nat) {t : List (List Nat)} (h : t ≠ []) : joinNL (x :: t) = x ++ 10 :: joinNL t := by
  cases t with
  | nil => exact absurd rfl h
  | cons y r => rfl
theorem join_splitNL : ∀ l : List Nat, joinNL (splitNL l) = l
  | [] => rfl
  | c :: r => by
    have ih := join_splitNL r
    by_cases h : c = 10
    · subst h; rw [splitNL_nl, joinNL_cons _ (splitNL_ne r), ih]; rfl
    · obtain ⟨x, t, e1, e2⟩ := splitNL_cons_ne h r
      rw [e2]
      rw [e1] at ih
      cases t with
      | nil => simp only [joinNL] at ih ⊢; rw [ih]
      | cons y r' => simp only [joinNL] at ih ⊢; rw [← ih]; rfl
theorem splitNL_free (l : List Nat) (h : 10 ∉ l) : splitNL l = [l] := by
  induction l with
  | nil => rfl
  | cons c r ih =>
    have hc : c ≠ 10 := fun e => h (by simp [e])
    obtain ⟨x, t, e1, e2⟩ := splitNL_cons_ne hc r
    rw [ih (fun m => h (List.mem_cons_of_mem _ m))] at e1
    cases e1
    exact e2
theorem splitNL_append (a b : List Nat) (h : 10 ∉ a) : splitNL (a ++ 10 :: b) = a :: splitNL b := by
  induction a with
  | nil => exact splitNL_nl b
  | cons c r ih =>
    have hc : c ≠ 10 := fun e => h (by simp [e])
    have ih := ih (fun m => h (List.mem_cons_of_mem _ m))
    obtain ⟨x, t, e1, e2⟩ := splitNL_cons_ne hc (r ++ 10 :: b)
    rw [ih] at e1
    cases e1
    exact e2
theorem splitNL_mem_free : ∀ (l : List Nat), ∀ p ∈ splitNL l, 10 ∉ p
  | [], p, hp => by simp [splitNL] at hp; subst hp; simp
  | c :: r, p, hp => by
    have ih := splitNL_mem_free r
    by_cases h : c = 10
    · subst h
      rw [splitNL_nl] at hp
      rcases List.mem_cons.mp hp with rfl | hp
      · simp
      · exact ih p hp
    · obtain ⟨x, t, e1, e2⟩ := splitNL_cons_ne h r
      rw [e2] at hp
      rcases List.mem_cons.mp hp with rfl | hp
      · intro m
        rcases List.mem_cons.mp m with m | m
        · exact h m.symm
        · exact ih x (by rw [e1]; exact List.mem_cons_self ..) m
      · exact ih p (by rw [e1]; exact List.mem_cons_of_mem _ hp)
theorem splitNL_two (a b : List Nat) : splitNL (a ++ 10 :: b) = splitNL a ++ splitNL b := by
  induction a with
  | nil => exact splitNL_nl b
  | cons c r ih =>
    by_cases h : c = 10
    · subst h; rw [List.cons_append, splitNL_nl, splitNL_nl, ih]; rfl
    · obtain ⟨x, t, e1, e2⟩ := splitNL_cons_ne h r
      obtain ⟨x', t', e1', e2'⟩ := splitNL_cons_ne h (r ++ 10 :: b)
      rw [List.cons_append, e2, e2']
      rw [ih, e1] at e1'
      cases e1'
      rfl
theorem splitNL_join : ∀ ls : List (List Nat), ls ≠ [] → splitNL (joinNL ls) = ls.flatMap splitNL
  | [], h => absurd rfl h
  | [x], _ => by simp [joinNL]
  | x :: y :: r, _ => by
    show splitNL (x ++ 10 :: joinNL (y :: r)) = _
    rw [splitNL_two, splitNL_join (y :: r) (by simp)]
    rfl
theorem flatMap_free : ∀ ls : List (List Nat), (∀ p ∈ ls, 10 ∉ p) → ls.flatMap splitNL = ls
  | [], _ => rfl
  | p :: r, h => by
    rw [List.flatMap_cons, splitNL_free p (h p (List.mem_cons_self ..)), flatMap_free r (fun q hq => h q (List.mem_cons_of_mem _ hq))]
    rfl
theorem split_unique {ls : List (List Nat)} (hne : ls ≠ []) (h : ∀ p ∈ ls, 10 ∉ p) : splitNL (joinNL ls) = ls := by
  rw [splitNL_join ls hne, flatMap_free ls h]

/-! one written sign -/
theorem hexd_hex : ∀ k, k < 16 → isHex (hexd k) = true ∧ hexv (hexd k) = k ∧ hexd k ≠ 61 ∧ hexd k ≠ 10 ∧ hexd k ≠ 95 ∧ hexd k ≠ 13 ∧ PySem.Unicode.isSpace (hexd k) = false ∧ isBl (hexd k) = false := by decide +kernel
theorem safe_factsB : ∀ c, c < 256 → (!(c != 13 && c != 10 && safeB c) || (c != 61 && (isBl c || !PySem.Unicode.isSpace c))) = true := by decide +kernel
theorem safe_facts (c : Nat) (h : c < 256) (h13 : c ≠ 13) (h10 : c ≠ 10) (hs : safeB c = true) : c ≠ 61 ∧ (isBl c = false → PySem.Unicode.isSpace c = false) := by
  have := safe_factsB c h
  simp only [hs, bne_iff_ne, ne_eq, h13, h10, not_false_eq_true, Bool.and_true, Bool.or_eq_true, Bool.not_eq_true', Bool.and_eq_true] at this
  rcases this with h1 | h1
  · simp_all
  · refine ⟨h1.1, fun hb => ?_⟩
    rcases h1.2 with h2 | h2
    · rw [hb] at h2; cases h2
    · exact h2
theorem esc_back {c : Nat} (h : c < 256) : 16 * hexv (hexd (c / 16)) + hexv (hexd (c % 16)) = c := by
  rw [(hexd_hex (c / 16) (by omega)).2.1, (hexd_hex (c % 16) (by omega)).2.1]; omega
/-- a sign that may stand in a line: an octet, no CR, no LF -/
def lineC (c : Nat) : Prop := c < 256 ∧ c ≠ 13 ∧ c ≠ 10
theorem safe_ne {c : Nat} (h : lineC c) (hs : safeB c = true) : c ≠ 61 := (safe_facts c h.1 h.2.1 h.2.2 hs).1
theorem decW_esc {c : Nat} (h : c < 256) (r : List Nat) : decW (esc c ++ r) = c :: (if r = [] then [10] else decW r) := by
  obtain ⟨a1, a2, -⟩ := hexd_hex (c / 16) (by omega)
  obtain ⟨b1, b2, -⟩ := hexd_hex (c % 16) (by omega)
  unfold esc
  show decW (61 :: hexd (c / 16) :: hexd (c % 16) :: r) = _
  rw [decW]
  rw [if_pos ⟨rfl, a1, b1⟩, a2, b2]
  congr 1
  omega
theorem decW_plain {c : Nat} (h : c ≠ 61) (r : List Nat) : decW (c :: r) = c :: (if r = [] then [10] else decW r) := by
  match r with
  | [] => simp [decW, h]
  | [d] => simp [decW]
  | d :: e :: r => simp [decW, h]
theorem decW_enc1 {c : Nat} (h : lineC c) (r : List Nat) : decW (enc1 c ++ r) = c :: (if r = [] then [10] else decW r) := by
  unfold enc1
  split
  · rename_i hs; exact decW_plain (safe_ne h hs) r
  · exact decW_esc h.1 r
theorem enc1_ne (c : Nat) : enc1 c ≠ [] := by unfold enc1 esc; split <;> simp
theorem encT_cons (c : Nat) (v : List Nat) : encT (c :: v) = enc1 c ++ encT v := rfl
theorem encT_append (a b : List Nat) : encT (a ++ b) = encT a ++ encT b := by simp [encT]
theorem encT_nil_iff {v : List Nat} : encT v = [] ↔ v = [] := by
  cases v with
  | nil => simp [encT]
  | cons c r => simp [encT_cons, enc1_ne]
/-- a soft row: its signs, no line end -/
theorem decW_soft : ∀ v : List Nat, (∀ c ∈ v, lineC c) → decW (encT v ++ [61]) = v
  | [], _ => by simp [encT, decW]
  | c :: v, h => by
    rw [encT_cons, List.append_assoc, decW_enc1 (h c (List.mem_cons_self ..)), if_neg (by simp), decW_soft v (fun d hd => h d (List.mem_cons_of_mem _ hd))]
theorem decW_hard : ∀ v : List Nat, (∀ c ∈ v, lineC c) → v ≠ [] → ∀ r, decW (encT v ++ r) = v ++ (if r = [] then [10] else decW r)
  | [], _, h, _ => absurd rfl h
  | c :: v, h, _, r => by
    rw [encT_cons, List.append_assoc, decW_enc1 (h c (List.mem_cons_self ..))]
    by_cases hv : v = []
    · subst hv; simp [encT]
    · have : encT v ++ r ≠ [] := by simp [encT_nil_iff, hv]
      rw [if_neg this, decW_hard v (fun d hd => h d (List.mem_cons_of_mem _ hd)) hv r]
      rfl

/-! the row's end: no blank is taken away -/
theorem rstrip_of_last {l : List Nat} {c : Nat} (h : PySem.Unicode.isSpace c = false) : rstripL (l ++ [c]) = l ++ [c] := by
  unfold rstripL
  rw [List.reverse_append, List.reverse_singleton, List.singleton_append, List.dropWhile_cons_of_neg (by simp [h])]
  simp
theorem enc1_last (c : Nat) (h : lineC c) (hb : isBl c = false) : ∃ l d, enc1 c = l ++ [d] ∧ PySem.Unicode.isSpace d = false ∧ isBl d = false := by
  unfold enc1
  split
  · rename_i hs
    exact ⟨[], c, rfl, (safe_facts c h.1 h.2.1 h.2.2 hs).2 hb, hb⟩
  · have hx := hexd_hex (c % 16) (by omega)
    exact ⟨[61, hexd (c / 16)], hexd (c % 16), rfl, hx.2.2.2.2.2.2.1, hx.2.2.2.2.2.2.2⟩
theorem bl_safe {c : Nat} (h : isBl c = true) : enc1 c = [c] := by
  unfold isBl at h
  simp only [Bool.or_eq_true, beq_iff_eq] at h
  rcases h with rfl | rfl <;> rfl
theorem decLine_soft {v : List Nat} (h : ∀ c ∈ v, lineC c) : decLine (encT v ++ [61]) = v := by
  have e := rstrip_of_last (l := encT v) (c := 61) (by decide +kernel)
  unfold decLine
  rw [e, if_neg (by simp), decW_soft v h]
theorem decLine_nil : decLine [] = [10] := rfl
theorem esc_last (c : Nat) (h : c < 256) : ∃ l d, esc c = l ++ [d] ∧ PySem.Unicode.isSpace d = false :=
  ⟨[61, hexd (c / 16)], hexd (c % 16), rfl, (hexd_hex (c % 16) (by omega)).2.2.2.2.2.2.1⟩
/-- the last row of a line whose last sign is written out -/
theorem decLine_escEnd {v : List Nat} {c : Nat} (h : ∀ c ∈ v, lineC c) (hc : c < 256) : decLine (encT v ++ esc c) = v ++ [c, 10] := by
  obtain ⟨l, d, e, hd⟩ := esc_last c hc
  have e' := rstrip_of_last (l := encT v ++ l) (c := d) hd
  rw [List.append_assoc, ← e] at e'
  unfold decLine
  rw [e', if_neg (by simp [esc])]
  have q : decW (esc c) = [c, 10] := by
    have := decW_esc hc []
    simpa using this
  cases v with
  | nil => simpa [encT] using q
  | cons a v =>
    rw [decW_hard (a :: v) h (by simp), if_neg (by simp [esc]), q]
theorem decLine_plainEnd {v : List Nat} {c : Nat} (h : ∀ d ∈ v ++ [c], lineC d) (hb : isBl c = false) : decLine (encT (v ++ [c])) = v ++ [c, 10] := by
  obtain ⟨l, d, e, hd, _⟩ := enc1_last c (h c (by simp)) hb
  have e1 : encT (v ++ [c]) = (encT v ++ l) ++ [d] := by
    rw [encT_append, List.append_assoc, ← e]; simp [encT]
  have e' := rstrip_of_last (l := encT v ++ l) (c := d) hd
  rw [← e1] at e'
  unfold decLine
  rw [e', if_neg (by simp [e1])]
  have := decW_hard (v ++ [c]) h (by simp) []
  rw [List.append_nil] at this
  rw [this]; simp

/-! where a row may be cut -/
theorem cut_at61 : ∀ (v : List Nat) (k : Nat), (∀ c ∈ v, lineC c) → (encT v)[k]? = some 61 → ∃ a b, v = a ++ b ∧ encT a = (encT v).take k ∧ encT b = (encT v).drop k
  | [], k, _, h => by simp [encT] at h
  | c :: v, k, hv, h => by
    have hl := hv c (List.mem_cons_self ..)
    rw [encT_cons] at h ⊢
    by_cases hk : k < (enc1 c).length
    · have h0 : k = 0 := by
        rw [List.getElem?_append_left hk] at h
        unfold enc1 at h hk
        split at h
        · rename_i hs; rw [if_pos hs] at hk; simp at hk; exact hk
        · rename_i hs
          rw [if_neg hs] at hk
          have q1 := (hexd_hex (c / 16) (by have := hl.1; omega)).2.2.1
          have q2 := (hexd_hex (c % 16) (by omega)).2.2.1
          match k, hk, h with
          | 0, _, _ => rfl
          | 1, _, h => simp [esc] at h; exact absurd h q1
          | 2, _, h => simp [esc] at h; exact absurd h q2
          | k + 3, hk, _ => simp [esc] at hk; omega
      subst h0
      exact ⟨[], c :: v, rfl, by simp [encT], by simp [encT_cons]⟩
    · have hk' : (enc1 c).length ≤ k := by omega
      rw [List.getElem?_append_right hk'] at h
      obtain ⟨a, b, e1, e2, e3⟩ := cut_at61 v (k - (enc1 c).length) (fun d hd => hv d (List.mem_cons_of_mem _ hd)) h
      refine ⟨c :: a, b, by rw [e1]; rfl, ?_, ?_⟩
      · rw [encT_cons, e2, List.take_append]
        rw [List.take_of_length_le hk']
      · rw [e3, List.drop_append]
        rw [List.drop_of_length_le hk', List.nil_append]
theorem cut_free : ∀ (v : List Nat) (k : Nat), (∀ c ∈ v, lineC c) → k ≤ (encT v).length → (∀ j, j < k → k ≤ j + 2 → (encT v)[j]? ≠ some 61) → ∃ a b, v = a ++ b ∧ encT a = (encT v).take k ∧ encT b = (encT v).drop k
  | [], k, _, hk, _ => ⟨[], [], rfl, by simp [encT], by simp [encT]⟩
  | c :: v, k, hv, hk, h => by
    rw [encT_cons] at h hk ⊢
    by_cases h0 : k = 0
    · subst h0; exact ⟨[], c :: v, rfl, by simp [encT], by simp [encT_cons]⟩
    by_cases hk' : (enc1 c).length ≤ k
    · obtain ⟨a, b, e1, e2, e3⟩ := cut_free v (k - (enc1 c).length) (fun d hd => hv d (List.mem_cons_of_mem _ hd)) (by rw [List.length_append] at hk; omega) (fun j h1 h2 => by
        have := h (j + (enc1 c).length) (by omega) (by omega)
        rw [List.getElem?_append_right (by omega)] at this
        simpa using this)
      refine ⟨c :: a, b, by rw [e1]; rfl, ?_, ?_⟩
      · rw [encT_cons, e2, List.take_append]
        rw [List.take_of_length_le hk']
      · rw [e3, List.drop_append]
        rw [List.drop_of_length_le hk', List.nil_append]
    · exfalso
      have h3 : k < (enc1 c).length := by omega
      unfold enc1 at h3 h
      split at h3
      · simp at h3; omega
      · rename_i hs
        rw [if_neg hs] at h
        have hl : (esc c).length = 3 := rfl
        have := h 0 (by omega) (by omega)
        exact this rfl

/-- what a line's rows are, once written one under the other -/
theorem rows_dec (n : Nat) (hn : 4 ≤ n) : ∀ (m : Nat) (v : List Nat), (encT v).length ≤ m → (∀ c ∈ v, lineC c) →
    ((rowsOf n (encT v)).flatMap splitNL).flatMap decLine = v ++ [10] := by
  intro m
  induction m with
  | zero =>
    intro v hm _
    have : encT v = [] := List.length_eq_zero_iff.mp (by omega)
    have hv := encT_nil_iff.mp this
    subst hv
    rw [rowsOf, dif_neg (by simp [encT])]
    rfl
  | succ m ih =>
    intro v hm hv
    have soft : ∀ (k : Nat) (a b : List Nat), 0 < k → k ≤ (encT v).length → v = a ++ b → encT a = (encT v).take k → encT b = (encT v).drop k → ∀ row rest, row = encT a ++ [61] → rest = encT b →
        ((row :: rowsOf n rest).flatMap splitNL).flatMap decLine = v ++ [10] := by
      intro k a b hk hkl e1 e2 e3 row rest er es
      subst er es
      have ha : ∀ c ∈ a, lineC c := fun c hc => hv c (by rw [e1]; exact List.mem_append_left _ hc)
      have hb : ∀ c ∈ b, lineC c := fun c hc => hv c (by rw [e1]; exact List.mem_append_right _ hc)
      have hfree : 10 ∉ encT a ++ [61] := by
        intro hm
        rcases List.mem_append.mp hm with hm | hm
        · obtain ⟨c, hc, hm⟩ := List.mem_flatMap.mp hm
          have hl := ha c hc
          unfold enc1 at hm
          split at hm
          · exact hl.2.2 (List.mem_singleton.mp hm).symm
          · have q1 := (hexd_hex (c / 16) (by have := hl.1; omega)).2.2.2.1
            have q2 := (hexd_hex (c % 16) (by omega)).2.2.2.1
            simp only [esc, List.mem_cons, List.not_mem_nil, or_false] at hm
            rcases hm with hm | hm | hm
            · omega
            · exact q1 hm.symm
            · exact q2 hm.symm
        · simp at hm
      have hlen : (encT b).length ≤ m := by rw [e3, List.length_drop]; omega
      rw [List.flatMap_cons, splitNL_free _ hfree, List.flatMap_append, ih b hlen hb]
      show decLine (encT a ++ [61]) ++ [] ++ (b ++ [10]) = v ++ [10]
      rw [decLine_soft ha, e1]; simp
    rw [rowsOf]
    split
    · rename_i hc
      split
      · rename_i h61
        obtain ⟨a, b, e1, e2, e3⟩ := cut_at61 v (n - 3) hv h61
        refine soft (n - 3) a b (by omega) (by omega) e1 e2 e3 _ _ ?_ e3.symm
        rw [e2, show n - 2 = (n - 3) + 1 by omega, List.take_add_one, h61]; rfl
      · rename_i h61
        split
        · rename_i h62
          obtain ⟨a, b, e1, e2, e3⟩ := cut_at61 v (n - 2) hv h62
          refine soft (n - 2) a b (by omega) (by omega) e1 e2 e3 _ _ ?_ e3.symm
          rw [e2, show n - 1 = (n - 2) + 1 by omega, List.take_add_one, h62]; rfl
        · rename_i h62
          obtain ⟨a, b, e1, e2, e3⟩ := cut_free v (n - 1) hv (by omega) (fun j h1 h2 => by
            have : j = n - 2 ∨ j = n - 3 := by omega
            rcases this with rfl | rfl
            · exact h62
            · exact h61)
          refine soft (n - 1) a b (by omega) (by omega) e1 e2 e3 _ _ ?_ e3.symm
          rw [e2]
    · rcases List.eq_nil_or_concat v with rfl | ⟨v', c, rfl⟩
      · rfl
      · rw [List.concat_eq_append] at hv hm ⊢
        have hcl := hv c (by simp)
        have hv' : ∀ d ∈ v', lineC d := fun d hd => hv d (List.mem_append_left _ hd)
        have free : ∀ d ∈ encT (v' ++ [c]), d ≠ 10 := by
          intro d hd e
          subst e
          obtain ⟨x, hx, hm⟩ := List.mem_flatMap.mp hd
          have hl := hv x hx
          unfold enc1 at hm
          split at hm
          · exact hl.2.2 (List.mem_singleton.mp hm).symm
          · have q1 := (hexd_hex (x / 16) (by have := hl.1; omega)).2.2.2.1
            have q2 := (hexd_hex (x % 16) (by omega)).2.2.2.1
            simp only [esc, List.mem_cons, List.not_mem_nil, or_false] at hm
            rcases hm with hm | hm | hm
            · omega
            · exact q1 hm.symm
            · exact q2 hm.symm
        have free' : 10 ∉ encT v' := fun hm => free 10 (by rw [encT_append]; exact List.mem_append_left _ hm) rfl
        have freeE : 10 ∉ esc c := by
          have q1 := (hexd_hex (c / 16) (by have := hcl.1; omega)).2.2.2.1
          have q2 := (hexd_hex (c % 16) (by omega)).2.2.2.1
          simp only [esc, List.mem_cons, List.not_mem_nil, or_false, not_or]
          exact ⟨by omega, fun h => q1 h.symm, fun h => q2 h.symm⟩
        by_cases hb : isBl c = true
        · have es : encT (v' ++ [c]) = encT v' ++ [c] := by rw [encT_append]; simp [encT, bl_safe hb]
          rw [es]
          have hlast : (encT v' ++ [c]).getLast? = some c := by simp
          have hrow : finRow n (encT v' ++ [c]) = (if (encT v' ++ [c]).length + 2 ≤ n then encT v' ++ esc c else if (encT v' ++ [c]).length + 1 = n then encT v' ++ [c] ++ [61, 10] else encT v' ++ [61, 10] ++ esc c) := by
            unfold finRow
            rw [hlast]
            simp only [hb, if_true, List.dropLast_concat]
          rw [hrow]
          split
          · rw [List.flatMap_singleton, splitNL_free _ (by intro hm; rcases List.mem_append.mp hm with hm | hm; exact free' hm; exact freeE hm), List.flatMap_singleton, decLine_escEnd hv' hcl.1]
            simp
          · split
            · rw [List.flatMap_singleton, show encT v' ++ [c] ++ [61, 10] = (encT (v' ++ [c]) ++ [61]) ++ 10 :: [] by rw [es]; simp,
                splitNL_append _ _ (by intro hm; rcases List.mem_append.mp hm with hm | hm; exact free 10 hm rfl; simp at hm)]
              show decLine (encT (v' ++ [c]) ++ [61]) ++ (decLine [] ++ []) = _
              rw [decLine_soft hv, decLine_nil]; simp
            · rw [List.flatMap_singleton, show encT v' ++ [61, 10] ++ esc c = (encT v' ++ [61]) ++ 10 :: (esc c) by simp,
                splitNL_append _ _ (by intro hm; rcases List.mem_append.mp hm with hm | hm; exact free' hm; simp at hm), splitNL_free _ freeE]
              show decLine (encT v' ++ [61]) ++ (decLine (esc c) ++ []) = _
              rw [decLine_soft hv']
              have := decLine_escEnd (v := []) (c := c) (by simp) hcl.1
              simp only [encT, List.flatMap_nil, List.nil_append] at this
              rw [this]; simp
        · have hb' : isBl c = false := by simpa using hb
          obtain ⟨l, d, e, hd, hbd⟩ := enc1_last c hcl hb'
          have e1 : encT (v' ++ [c]) = (encT v' ++ l) ++ [d] := by
            rw [encT_append, List.append_assoc, ← e]; simp [encT]
          have hrow : finRow n (encT (v' ++ [c])) = encT (v' ++ [c]) := by
            unfold finRow
            rw [e1, List.getLast?_concat]
            simp [hbd]
          rw [hrow, List.flatMap_singleton, splitNL_free _ (fun hm => free 10 hm rfl), List.flatMap_singleton, decLine_plainEnd hv hb']
          simp
end Mine
end
section
set_option Elab.async false
namespace Mine

/-! which signs stand in a writing, and how a row of it looks -/
def okC (c : Nat) : Prop := c = 10 ∨ c = 9 ∨ (32 ≤ c ∧ c ≤ 126)
def noEU : List Nat → Prop
  | [] => True
  | c :: r => (c = 61 → r.head? ≠ some 95) ∧ noEU r
def Ph (p : List Nat) : Prop := (∀ c ∈ p, okC c ∧ c ≠ 10) ∧ noEU p
theorem hexd_ok {k : Nat} (h : k < 16) : okC (hexd k) := by unfold hexd okC; split <;> omega
theorem safe_ok {c : Nat} (h : safeB c = true) (h13 : c ≠ 13) : okC c := by
  unfold safeB at h
  simp only [Bool.or_eq_true, Bool.and_eq_true, beq_iff_eq, decide_eq_true_eq, bne_iff_ne, ne_eq] at h
  unfold okC
  omega
theorem enc1_ok {c : Nat} (h : lineC c) : ∀ d ∈ enc1 c, okC d ∧ d ≠ 10 := by
  intro d hd
  unfold enc1 at hd
  split at hd
  · rename_i hs
    rw [List.mem_singleton.mp hd]
    exact ⟨safe_ok hs h.2.1, h.2.2⟩
  · have q1 := hexd_hex (c / 16) (by have := h.1; omega)
    have q2 := hexd_hex (c % 16) (by omega)
    simp only [esc, List.mem_cons, List.not_mem_nil, or_false] at hd
    rcases hd with rfl | rfl | rfl
    · exact ⟨by unfold okC; omega, by omega⟩
    · exact ⟨hexd_ok (by have := h.1; omega), q1.2.2.2.1⟩
    · exact ⟨hexd_ok (by omega), q2.2.2.2.1⟩
theorem esc_ok {c : Nat} (h : c < 256) : ∀ d ∈ esc c, okC d ∧ d ≠ 10 := by
  intro d hd
  have q1 := hexd_hex (c / 16) (by omega)
  have q2 := hexd_hex (c % 16) (by omega)
  simp only [esc, List.mem_cons, List.not_mem_nil, or_false] at hd
  rcases hd with rfl | rfl | rfl
  · exact ⟨by unfold okC; omega, by omega⟩
  · exact ⟨hexd_ok (by omega), q1.2.2.2.1⟩
  · exact ⟨hexd_ok (by omega), q2.2.2.2.1⟩
theorem encT_ok {v : List Nat} (h : ∀ c ∈ v, lineC c) : ∀ d ∈ encT v, okC d ∧ d ≠ 10 := by
  intro d hd
  obtain ⟨c, hc, hm⟩ := List.mem_flatMap.mp hd
  exact enc1_ok (h c hc) d hm
theorem noEU_esc {c : Nat} (h : c < 256) {r : List Nat} (hr : noEU r) : noEU (esc c ++ r) := by
  have q1 := hexd_hex (c / 16) (by omega)
  have q2 := hexd_hex (c % 16) (by omega)
  exact ⟨fun _ e => q1.2.2.2.2.1 (Option.some.inj e), fun e => absurd e q1.2.2.1, fun e => absurd e q2.2.2.1, hr⟩
theorem noEU_enc1 {c : Nat} (h : lineC c) {r : List Nat} (hr : noEU r) : noEU (enc1 c ++ r) := by
  unfold enc1
  split
  · rename_i hs; exact ⟨fun e => absurd e (safe_ne h hs), hr⟩
  · exact noEU_esc h.1 hr
theorem noEU_encT : ∀ {v : List Nat}, (∀ c ∈ v, lineC c) → ∀ {r : List Nat}, noEU r → noEU (encT v ++ r)
  | [], _, _, hr => hr
  | c :: v, h, r, hr => by
    rw [encT_cons, List.append_assoc]
    exact noEU_enc1 (h c (List.mem_cons_self ..)) (noEU_encT (fun d hd => h d (List.mem_cons_of_mem _ hd)) hr)
theorem ph_soft {v : List Nat} (h : ∀ c ∈ v, lineC c) : Ph (encT v ++ [61]) :=
  ⟨fun c hc => (List.mem_append.mp hc).elim (encT_ok h c) fun e => by rw [List.mem_singleton.mp e]; exact ⟨by unfold okC; omega, by omega⟩, noEU_encT h ⟨fun _ e => (by cases e), trivial⟩⟩
theorem ph_enc {v : List Nat} (h : ∀ c ∈ v, lineC c) : Ph (encT v) := ⟨encT_ok h, by have := noEU_encT h (r := []) trivial; simpa using this⟩
theorem ph_esc {v : List Nat} (h : ∀ c ∈ v, lineC c) {c : Nat} (hc : c < 256) : Ph (encT v ++ esc c) :=
  ⟨fun d hd => (List.mem_append.mp hd).elim (encT_ok h d) (esc_ok hc d), noEU_encT h (by have := noEU_esc hc (r := []) trivial; simpa using this)⟩
theorem ph_free {p : List Nat} (h : Ph p) : 10 ∉ p := fun m => (h.1 10 m).2 rfl
theorem ph_splits {a b : List Nat} (ha : Ph a) (hb : Ph b) : ∀ p ∈ splitNL (a ++ 10 :: b), Ph p := by
  rw [splitNL_append _ _ (ph_free ha), splitNL_free _ (ph_free hb)]
  intro p hp
  simp only [List.mem_cons, List.not_mem_nil, or_false] at hp
  rcases hp with rfl | rfl <;> assumption
theorem ph_split {a : List Nat} (ha : Ph a) : ∀ p ∈ splitNL a, Ph p := by
  rw [splitNL_free _ (ph_free ha)]
  intro p hp
  rw [List.mem_singleton.mp hp]
  exact ha

theorem rows_ph (n : Nat) (hn : 4 ≤ n) : ∀ (m : Nat) (v : List Nat), (encT v).length ≤ m → (∀ c ∈ v, lineC c) → ∀ row ∈ rowsOf n (encT v), ∀ p ∈ splitNL row, Ph p := by
  intro m
  induction m with
  | zero =>
    intro v hm _
    have : encT v = [] := List.length_eq_zero_iff.mp (by omega)
    have hv := encT_nil_iff.mp this
    subst hv
    rw [rowsOf, dif_neg (by simp [encT])]
    intro row hrow
    rw [List.mem_singleton.mp hrow]
    exact ph_split ⟨fun c hc => (by cases hc), trivial⟩
  | succ m ih =>
    intro v hm hv
    have soft : ∀ (k : Nat) (a b : List Nat), 0 < k → k ≤ (encT v).length → v = a ++ b → encT a = (encT v).take k → encT b = (encT v).drop k → ∀ r0 rest, r0 = encT a ++ [61] → rest = encT b →
        ∀ row ∈ r0 :: rowsOf n rest, ∀ p ∈ splitNL row, Ph p := by
      intro k a b hk hkl e1 e2 e3 r0 rest er es row hrow
      subst er es
      have ha : ∀ c ∈ a, lineC c := fun c hc => hv c (by rw [e1]; exact List.mem_append_left _ hc)
      have hb : ∀ c ∈ b, lineC c := fun c hc => hv c (by rw [e1]; exact List.mem_append_right _ hc)
      have hlen : (encT b).length ≤ m := by rw [e3, List.length_drop]; omega
      rcases List.mem_cons.mp hrow with rfl | hrow
      · exact ph_split (ph_soft ha)
      · exact ih b hlen hb row hrow
    rw [rowsOf]
    split
    · rename_i hc
      split
      · rename_i h61
        obtain ⟨a, b, e1, e2, e3⟩ := cut_at61 v (n - 3) hv h61
        refine soft (n - 3) a b (by omega) (by omega) e1 e2 e3 _ _ ?_ e3.symm
        rw [e2, show n - 2 = (n - 3) + 1 by omega, List.take_add_one, h61]; rfl
      · rename_i h61
        split
        · rename_i h62
          obtain ⟨a, b, e1, e2, e3⟩ := cut_at61 v (n - 2) hv h62
          refine soft (n - 2) a b (by omega) (by omega) e1 e2 e3 _ _ ?_ e3.symm
          rw [e2, show n - 1 = (n - 2) + 1 by omega, List.take_add_one, h62]; rfl
        · rename_i h62
          obtain ⟨a, b, e1, e2, e3⟩ := cut_free v (n - 1) hv (by omega) (fun j h1 h2 => by
            have : j = n - 2 ∨ j = n - 3 := by omega
            rcases this with rfl | rfl
            · exact h62
            · exact h61)
          refine soft (n - 1) a b (by omega) (by omega) e1 e2 e3 _ _ ?_ e3.symm
          rw [e2]
    · intro row hrow
      rw [List.mem_singleton.mp hrow]
      rcases List.eq_nil_or_concat v with rfl | ⟨v', c, rfl⟩
      · exact ph_split ⟨fun c hc => (by cases hc), trivial⟩
      · rw [List.concat_eq_append] at hv hm ⊢
        have hcl := hv c (by simp)
        have hv' : ∀ d ∈ v', lineC d := fun d hd => hv d (List.mem_append_left _ hd)
        by_cases hb : isBl c = true
        · have es : encT (v' ++ [c]) = encT v' ++ [c] := by rw [encT_append]; simp [encT, bl_safe hb]
          have hrow : finRow n (encT (v' ++ [c])) = (if (encT v' ++ [c]).length + 2 ≤ n then encT v' ++ esc c else if (encT v' ++ [c]).length + 1 = n then encT v' ++ [c] ++ [61, 10] else encT v' ++ [61, 10] ++ esc c) := by
            rw [es]
            unfold finRow
            rw [show (encT v' ++ [c]).getLast? = some c by simp]
            simp only [hb, if_true, List.dropLast_concat]
          rw [hrow]
          split
          · exact ph_split (ph_esc hv' hcl.1)
          · split
            · rw [show encT v' ++ [c] ++ [61, 10] = (encT (v' ++ [c]) ++ [61]) ++ 10 :: [] by rw [es]; simp]
              exact ph_splits (ph_soft hv) ⟨fun c hc => (by cases hc), trivial⟩
            · rw [show encT v' ++ [61, 10] ++ esc c = (encT v' ++ [61]) ++ 10 :: (esc c) by simp]
              refine ph_splits (ph_soft hv') ?_
              have := ph_esc (v := []) (fun c hc => (by cases hc)) hcl.1
              simpa [encT] using this
        · have hb' : isBl c = false := by simpa using hb
          obtain ⟨l, d, e, hd, hbd⟩ := enc1_last c hcl hb'
          have e1 : encT (v' ++ [c]) = (encT v' ++ l) ++ [d] := by
            rw [encT_append, List.append_assoc, ← e]; simp [encT]
          have hrow : finRow n (encT (v' ++ [c])) = encT (v' ++ [c]) := by
            unfold finRow
            rw [e1, List.getLast?_concat]
            simp [hbd]
          rw [hrow]
          exact ph_split (ph_enc hv)

/-! a whole text -/
def textC (u : List Nat) : Prop := ∀ c ∈ u, c < 256 ∧ c ≠ 13
theorem split_encT : ∀ {u : List Nat}, textC u → splitNL (encT u) = (splitNL u).map encT
  | [], _ => rfl
  | c :: r, h => by
    have ih := split_encT (u := r) fun d hd => h d (List.mem_cons_of_mem _ hd)
    have hc := h c (List.mem_cons_self ..)
    rw [encT_cons]
    by_cases h10 : c = 10
    · subst h10
      show splitNL (10 :: encT r) = _
      rw [splitNL_nl, splitNL_nl, ih]; rfl
    · obtain ⟨x, t, e1, e2⟩ := splitNL_cons_ne h10 r
      rw [e2]
      have fr : ∀ d ∈ enc1 c, d ≠ 10 := fun d hd => (enc1_ok ⟨hc.1, hc.2, h10⟩ d hd).2
      rw [e1] at ih
      have pre : ∀ (a : List Nat), (∀ d ∈ a, d ≠ 10) → splitNL (a ++ encT r) = (a ++ encT x) :: t.map encT := by
        intro a
        induction a with
        | nil => intro _; exact ih
        | cons d a iha =>
          intro hd
          obtain ⟨x', t', e1', e2'⟩ := splitNL_cons_ne (hd d (List.mem_cons_self ..)) (a ++ encT r)
          rw [iha (fun y hy => hd y (List.mem_cons_of_mem _ hy))] at e1'
          cases e1'
          exact e2'
      rw [pre _ fr]; rfl
theorem lines_C {u : List Nat} (h : textC u) : ∀ v ∈ splitNL u, ∀ c ∈ v, lineC c := by
  induction u with
  | nil => intro v hv; simp [splitNL] at hv; subst hv; simp
  | cons c r ih =>
    have ih := ih fun d hd => h d (List.mem_cons_of_mem _ hd)
    by_cases h10 : c = 10
    · subst h10
      rw [splitNL_nl]
      intro v hv
      rcases List.mem_cons.mp hv with rfl | hv
      · simp
      · exact ih v hv
    · obtain ⟨x, t, e1, e2⟩ := splitNL_cons_ne h10 r
      rw [e2]
      intro v hv
      rcases List.mem_cons.mp hv with rfl | hv
      · intro d hd
        rcases List.mem_cons.mp hd with rfl | hd
        · exact ⟨(h d (List.mem_cons_self ..)).1, (h d (List.mem_cons_self ..)).2, h10⟩
        · exact ih x (by rw [e1]; exact List.mem_cons_self ..) d hd
      · exact ih v (by rw [e1]; exact List.mem_cons_of_mem _ hv)
theorem rowsOf_ne (n : Nat) (l : List Nat) : rowsOf n l ≠ [] := by
  rw [rowsOf]
  split
  · split
    · simp
    · split <;> simp
  · simp
theorem rowsAll_ne (n : Nat) (t : List Nat) : (splitNL t).flatMap (rowsOf n) ≠ [] := by
  cases e : splitNL t with
  | nil => exact absurd e (splitNL_ne t)
  | cons x r => simp [rowsOf_ne]
/-- the writing's rows -/
theorem split_encL {n : Nat} {u : List Nat} (h : textC u) : splitNL (encL n u) = (splitNL u).flatMap fun v => (rowsOf n (encT v)).flatMap splitNL := by
  unfold encL
  rw [splitNL_join _ (rowsAll_ne n _), split_encT h]
  rw [List.flatMap_map, List.flatMap_assoc]
theorem encL_ph {n : Nat} (hn : 4 ≤ n) {u : List Nat} (h : textC u) : ∀ p ∈ splitNL (encL n u), Ph p := by
  rw [split_encL h]
  intro p hp
  obtain ⟨v, hv, hp⟩ := List.mem_flatMap.mp hp
  obtain ⟨row, hrow, hp⟩ := List.mem_flatMap.mp hp
  exact rows_ph n hn _ v (Nat.le_refl _) (lines_C h v hv) row hrow p hp
theorem noEU_two {a b : List Nat} (ha : noEU a) (hb : noEU b) : noEU (a ++ 10 :: b) := by
  induction a with
  | nil => exact ⟨fun e => absurd e (by omega), hb⟩
  | cons c r ih =>
    refine ⟨fun e => ?_, ih ha.2⟩
    have := ha.1 e
    cases r with
    | nil => intro e; cases e
    | cons d r => exact this
theorem join_all {P : List Nat → Prop} : ∀ {ls : List (List Nat)}, ls ≠ [] → (∀ a b, P a → P b → P (a ++ 10 :: b)) → (∀ p ∈ ls, P p) → P (joinNL ls)
  | [], h, _, _ => absurd rfl h
  | [x], _, _, h => h x (List.mem_cons_self ..)
  | x :: y :: r, _, h2, h => h2 x _ (h x (List.mem_cons_self ..)) (join_all (by simp) h2 fun p hp => h p (List.mem_cons_of_mem _ hp))
/-- no writing holds =_ -/
theorem encL_noEU {n : Nat} (hn : 4 ≤ n) {u : List Nat} (h : textC u) : noEU (encL n u) := by
  rw [← join_splitNL (encL n u)]
  exact join_all (splitNL_ne _) (fun a b => noEU_two) fun p hp => (encL_ph hn h p hp).2
/-- a writing's signs -/
theorem encL_ok {n : Nat} (hn : 4 ≤ n) {u : List Nat} (h : textC u) : ∀ c ∈ encL n u, okC c := by
  rw [← join_splitNL (encL n u)]
  refine join_all (P := fun l => ∀ c ∈ l, okC c) (splitNL_ne _) (fun a b ha hb c hc => ?_) fun p hp c hc => ((encL_ph hn h p hp).1 c hc).1
  rcases List.mem_append.mp hc with hc | hc
  · exact ha c hc
  · rcases List.mem_cons.mp hc with rfl | hc
    · exact .inl rfl
    · exact hb c hc
theorem okC_textC {u : List Nat} (h : ∀ c ∈ u, okC c) : textC u := fun c hc => by
  have := h c hc
  unfold okC at this
  omega
/-- reading back gives the text and one line end more -/
theorem full_dec {n : Nat} (hn : 4 ≤ n) {u : List Nat} (h : textC u) : (splitNL (encL n u)).flatMap decLine = u ++ [10] := by
  rw [split_encL h, List.flatMap_assoc]
  have e : ∀ (ls : List (List Nat)), (∀ v ∈ ls, ∀ c ∈ v, lineC c) → (ls.flatMap fun v => ((rowsOf n (encT v)).flatMap splitNL).flatMap decLine) = ls.flatMap fun v => v ++ [10] := by
    intro ls
    induction ls with
    | nil => intro _; rfl
    | cons v r ih =>
      intro hv
      rw [List.flatMap_cons, List.flatMap_cons, rows_dec n hn _ v (Nat.le_refl _) (hv v (List.mem_cons_self ..)), ih fun x hx => hv x (List.mem_cons_of_mem _ hx)]
  rw [e _ (lines_C h)]
  have j : ∀ ls : List (List Nat), ls ≠ [] → (ls.flatMap fun v => v ++ [10]) = joinNL ls ++ [10] := by
    intro ls
    induction ls with
    | nil => intro h; exact absurd rfl h
    | cons x r ih =>
      intro _
      cases r with
      | nil => simp [joinNL]
      | cons y r => rw [List.flatMap_cons, ih (by simp)]; simp [joinNL]
  rw [j _ (splitNL_ne _), join_splitNL]
theorem last_split (l : List Nat) (h : l ≠ []) : ((splitNL l).getLast? = some [] ↔ l.getLast? = some 10) := by
  rcases List.eq_nil_or_concat l with rfl | ⟨a, c, rfl⟩
  · exact absurd rfl h
  · rw [List.concat_eq_append, List.getLast?_concat]
    by_cases hc : c = 10
    · subst hc
      rw [splitNL_two]
      simp [splitNL]
    · refine ⟨fun e => ?_, fun e => absurd (Option.some.inj e) hc⟩
      exfalso
      have key : ∀ a : List Nat, (splitNL (a ++ [c])).getLast? ≠ some [] := by
        intro a
        induction a with
        | nil => simp [splitNL, hc]
        | cons d a ih =>
          by_cases hd : d = 10
          · subst hd
            rw [List.cons_append, splitNL_nl]
            cases e : splitNL (a ++ [c]) with
            | nil => exact absurd e (splitNL_ne _)
            | cons x t => rw [e] at ih; rw [List.getLast?_cons_cons]; exact ih
          · obtain ⟨x, t, e1, e2⟩ := splitNL_cons_ne hd (a ++ [c])
            rw [List.cons_append, e2]
            rw [e1] at ih
            cases t with
            | nil => simp
            | cons y t => rw [List.getLast?_cons_cons] at ih ⊢; exact ih
      exact key a e
/-- THE LAW: a text written and read is the text -/
theorem dec_enc {n : Nat} (hn : 4 ≤ n) {u : List Nat} (h : textC u) : decL (encL n u) = u := by
  have full := full_dec hn h
  have ok := encL_ok hn h
  generalize encL n u = e at full ok
  unfold decL
  by_cases h0 : e = []
  · subst h0
    rw [if_pos rfl]
    have : (splitNL ([] : List Nat)).flatMap decLine = [10] := rfl
    rw [this] at full
    cases u with
    | nil => rfl
    | cons c r => simp at full
  · rw [if_neg h0]
    unfold linesNL
    by_cases hl : (splitNL e).getLast? = some []
    · rw [if_pos hl]
      have e10 := (last_split e h0).mp hl
      have hd : ((splitNL e).dropLast).flatMap decLine = u := by
        have q : splitNL e = (splitNL e).dropLast ++ [[]] := by
          have := List.dropLast_concat_getLast (splitNL_ne e)
          rw [List.getLast?_eq_some_getLast (splitNL_ne e)] at hl
          rw [Option.some.inj hl] at this
          exact this.symm
        rw [q, List.flatMap_append] at full
        have q2 : ([[]] : List (List Nat)).flatMap decLine = [10] := rfl
        rw [q2] at full
        exact List.append_cancel_right full
      rw [hd]
      unfold endStrip
      rw [if_neg (by rw [e10]; simp)]
    · rw [if_neg hl, full]
      have e10 : e.getLast? ≠ some 10 := fun q => hl ((last_split e h0).mpr q)
      have e13 : e.getLast? ≠ some 13 := fun q => by
        have := ok 13 (List.mem_of_getLast? q)
        unfold okC at this
        omega
      unfold endStrip
      rw [if_pos ⟨e10, e13, by simp⟩]
      simp

/-! sizes -/
theorem len_joinNL : ∀ {ls : List (List Nat)}, ls ≠ [] → (joinNL ls).length + 1 = (ls.map fun l => l.length + 1).sum
  | [], h => absurd rfl h
  | [x], _ => by simp [joinNL]
  | x :: y :: r, _ => by
    have := len_joinNL (ls := y :: r) (by simp)
    simp only [joinNL, List.length_append, List.length_cons, List.map_cons, List.sum_cons] at this ⊢
    omega
theorem len_split (l : List Nat) : ((splitNL l).map fun l => l.length + 1).sum = l.length + 1 := by
  rw [← len_joinNL (splitNL_ne l), join_splitNL]
theorem len_finRow (n : Nat) (l : List Nat) : (finRow n l).length ≤ l.length + 4 := by
  unfold finRow
  split
  · simp
  · rename_i c hc
    have : l ≠ [] := by intro e; subst e; cases hc
    have : 0 < l.length := List.length_pos_iff.mpr this
    split
    · split
      · simp [esc]; omega
      · split <;> simp [esc] <;> omega
    · omega
theorem len_rowsOf (n : Nat) : ∀ (m : Nat) (l : List Nat), l.length ≤ m → ((rowsOf n l).map fun l => l.length + 1).sum ≤ 3 * l.length + 5 := by
  intro m
  induction m with
  | zero =>
    intro l hm
    rw [rowsOf, dif_neg (by omega)]
    have := len_finRow n l
    simp; omega
  | succ m ih =>
    intro l hm
    rw [rowsOf]
    split
    · rename_i hc
      split
      · have := ih (l.drop (n - 3)) (by rw [List.length_drop]; omega)
        simp only [List.map_cons, List.sum_cons, List.length_take, List.length_drop] at this ⊢
        omega
      · split
        · have := ih (l.drop (n - 2)) (by rw [List.length_drop]; omega)
          simp only [List.map_cons, List.sum_cons, List.length_take, List.length_drop] at this ⊢
          omega
        · have := ih (l.drop (n - 1)) (by rw [List.length_drop]; omega)
          simp only [List.map_cons, List.sum_cons, List.length_append, List.length_take, List.length_drop, List.length_cons, List.length_nil] at this ⊢
          omega
    · have := len_finRow n l
      simp; omega
theorem len_enc1 (c : Nat) : (enc1 c).length ≤ 3 := by unfold enc1 esc; split <;> simp
theorem len_encT (u : List Nat) : (encT u).length ≤ 3 * u.length := by
  induction u with
  | nil => simp [encT]
  | cons c r ih => rw [encT_cons, List.length_append, List.length_cons]; have := len_enc1 c; omega
theorem len_rowsAll (n : Nat) : ∀ ls : List (List Nat), ((ls.flatMap (rowsOf n)).map fun l => l.length + 1).sum ≤ 5 * (ls.map fun l => l.length + 1).sum
  | [] => by simp
  | l :: r => by
    have := len_rowsAll n r
    have h1 := len_rowsOf n _ l (Nat.le_refl _)
    simp only [List.flatMap_cons, List.map_append, List.sum_append, List.map_cons, List.sum_cons] at this ⊢
    omega
theorem len_rows_encT (n : Nat) (u : List Nat) : (((splitNL (encT u)).flatMap (rowsOf n)).map fun l => l.length + 1).sum ≤ 15 * u.length + 5 := by
  have := len_rowsAll n (splitNL (encT u))
  rw [len_split] at this
  have := len_encT u
  omega
theorem len_encL (n : Nat) (u : List Nat) : (encL n u).length ≤ 15 * u.length + 4 := by
  have h1 := len_joinNL (rowsAll_ne n (encT u))
  have h2 := len_rows_encT n u
  unfold encL
  omega

/-! a letter, cut -/
def letterL (parts : List (List Nat)) (mark : List Nat) (n : Nat) : List Nat := (parts.flatMap fun p => mark ++ 10 :: (encL n p ++ [10])) ++ (mark ++ [45, 45, 10])
abbrev CutSt := List (List Nat) × Option (List (List Nat))
def cutStep (mark : List Nat) (st : CutSt) (row : List Nat) : CutSt :=
  if row = mark ∨ row = mark ++ [45, 45] then ((match st.2 with | some rows => st.1 ++ [joinNL rows] | none => st.1), some [])
  else (st.1, st.2.map fun rows => rows ++ [row])
def cutL (letter mark : List Nat) : List (List Nat) := ((splitNL letter).foldl (cutStep mark) ([], none)).1
theorem split_letter {mark : List Nat} (hm : 10 ∉ mark) (n : Nat) : ∀ parts : List (List Nat), splitNL (letterL parts mark n) = (parts.flatMap fun p => mark :: splitNL (encL n p)) ++ [mark ++ [45, 45], []]
  | [] => by
    unfold letterL
    rw [List.flatMap_nil, List.nil_append, show mark ++ [45, 45, 10] = (mark ++ [45, 45]) ++ 10 :: [] by simp, splitNL_append _ _ (by simp [hm])]
    rfl
  | p :: r => by
    have ih := split_letter hm n r
    have e : letterL (p :: r) mark n = mark ++ 10 :: (encL n p ++ 10 :: letterL r mark n) := by simp [letterL]
    rw [e, splitNL_append _ _ hm, splitNL_two, ih]
    simp
theorem fold_plain {mark : List Nat} : ∀ (xs : List (List Nat)) (ps rows : List (List Nat)), (∀ x ∈ xs, x ≠ mark ∧ x ≠ mark ++ [45, 45]) → xs.foldl (cutStep mark) (ps, some rows) = (ps, some (rows ++ xs))
  | [], ps, rows, _ => by simp
  | x :: r, ps, rows, h => by
    have hx := h x (List.mem_cons_self ..)
    rw [List.foldl_cons]
    have : cutStep mark (ps, some rows) x = (ps, some (rows ++ [x])) := by
      unfold cutStep
      rw [if_neg (by simp [hx.1, hx.2])]
      rfl
    rw [this, fold_plain r ps _ fun y hy => h y (List.mem_cons_of_mem _ hy)]
    simp
theorem noEU_mid (a b : List Nat) : ¬ noEU (a ++ 61 :: 95 :: b) := by
  induction a with
  | nil => intro h; exact h.1 rfl rfl
  | cons c r ih => intro h; exact ih h.2
theorem row_not_mark {a b : List Nat} {row : List Nat} (h : noEU row) : row ≠ a ++ 61 :: 95 :: b ∧ row ≠ (a ++ 61 :: 95 :: b) ++ [45, 45] := by
  refine ⟨fun e => noEU_mid a b (e ▸ h), fun e => noEU_mid a (b ++ [45, 45]) ?_⟩
  rw [e] at h
  simpa using h
theorem fold_parts {n : Nat} (hn : 4 ≤ n) {a b : List Nat} : ∀ (parts : List (List Nat)) (ps rows : List (List Nat)), (∀ p ∈ parts, textC p) →
    (parts.flatMap fun p => (a ++ 61 :: 95 :: b) :: splitNL (encL n p)).foldl (cutStep (a ++ 61 :: 95 :: b)) (ps, some rows) =
      (match parts.getLast? with | none => (ps, some rows) | some q => (ps ++ joinNL rows :: parts.dropLast.map (encL n), some (splitNL (encL n q))))
  | [], ps, rows, _ => rfl
  | p :: r, ps, rows, h => by
    rw [List.flatMap_cons, List.foldl_append, List.foldl_cons]
    have e1 : cutStep (a ++ 61 :: 95 :: b) (ps, some rows) (a ++ 61 :: 95 :: b) = (ps ++ [joinNL rows], some []) := by
      unfold cutStep; rw [if_pos (.inl rfl)]
    rw [e1, fold_plain _ _ _ (fun x hx => row_not_mark (encL_ph hn (h p (List.mem_cons_self ..)) x hx).2), List.nil_append,
      fold_parts hn r _ _ fun q hq => h q (List.mem_cons_of_mem _ hq)]
    cases r with
    | nil => simp
    | cons q r =>
      rw [List.getLast?_cons_cons]
      obtain ⟨z, hz⟩ : ∃ z, (q :: r).getLast? = some z := ⟨_, List.getLast?_eq_some_getLast (by simp)⟩
      rw [hz]
      simp [join_splitNL]
/-- THE LAW: a letter is cut into just its parts -/
theorem cut_letter {n : Nat} (hn : 4 ≤ n) {a b : List Nat} (hm : 10 ∉ a ++ 61 :: 95 :: b) (parts : List (List Nat)) (h : ∀ p ∈ parts, textC p) :
    cutL (letterL parts (a ++ 61 :: 95 :: b) n) (a ++ 61 :: 95 :: b) = parts.map (encL n) := by
  unfold cutL
  rw [split_letter hm, List.foldl_append]
  cases parts with
  | nil => simp [cutStep]
  | cons p r =>
    have e1 : cutStep (a ++ 61 :: 95 :: b) ([], none) (a ++ 61 :: 95 :: b) = ([], some []) := by
      unfold cutStep; rw [if_pos (.inl rfl)]
    rw [List.flatMap_cons, List.foldl_append, show ((a ++ 61 :: 95 :: b) :: splitNL (encL n p)).foldl (cutStep (a ++ 61 :: 95 :: b)) ([], none) = (splitNL (encL n p)).foldl (cutStep (a ++ 61 :: 95 :: b)) ([], some []) by rw [List.foldl_cons, e1], fold_plain _ _ _ (fun x hx => row_not_mark (encL_ph hn (h p (List.mem_cons_self ..)) x hx).2), List.nil_append,
      fold_parts hn r _ _ fun q hq => h q (List.mem_cons_of_mem _ hq)]
    have last : ∀ ps rows, ([(a ++ 61 :: 95 :: b) ++ [45, 45], []].foldl (cutStep (a ++ 61 :: 95 :: b)) (ps, some rows)).1 = ps ++ [joinNL rows] := by
      intro ps rows
      simp [cutStep]
    cases hr : r.getLast? with
    | none =>
      have : r = [] := by simpa using hr
      subst this
      simp only
      rw [last, join_splitNL]; rfl
    | some z =>
      simp only
      rw [last, join_splitNL, join_splitNL]
      have hr' : r = r.dropLast ++ [z] := by
        have hne : r ≠ [] := by intro e; subst e; cases hr
        have := List.dropLast_concat_getLast hne
        rw [List.getLast?_eq_some_getLast hne] at hr
        rw [Option.some.inj hr] at this
        exact this.symm
      conv => rhs; rw [hr']
      simp
theorem fold_some (mark : List Nat) : ∀ (xs : List (List Nat)) (ps rows : List (List Nat)), ∃ ps' rows', xs.foldl (cutStep mark) (ps, some rows) = (ps', some rows') ∧ ps.length ≤ ps'.length
  | [], ps, rows => ⟨ps, rows, rfl, Nat.le_refl _⟩
  | x :: r, ps, rows => by
    rw [List.foldl_cons]
    unfold cutStep
    split
    · obtain ⟨p', r', e, h⟩ := fold_some mark r (ps ++ [joinNL rows]) []
      exact ⟨p', r', e, by rw [List.length_append] at h; simp at h; omega⟩
    · obtain ⟨p', r', e, h⟩ := fold_some mark r ps (rows ++ [x])
      exact ⟨p', r', e, h⟩
def kMark : List Nat := [45, 45, 107]
theorem rows_k {n : Nat} (hn : 4 ≤ n) : rowsOf n (encT kMark) = [kMark] := by
  have e : encT kMark = kMark := by decide +kernel
  rw [e, rowsOf, dif_neg (by simp [kMark]; omega)]
  rfl
/-- a mark without =_ is met within the text -/
theorem cut_plain {n : Nat} (hn : 4 ≤ n) {u : List Nat} (h : textC u) : 2 < (cutL (letterL [kMark ++ 10 :: (kMark ++ 10 :: (u ++ 10 :: kMark))] kMark n) kMark).length := by
  have hk : 10 ∉ kMark := by decide
  have hw : textC (kMark ++ 10 :: (kMark ++ 10 :: (u ++ 10 :: kMark))) := by
    have kk : ∀ c ∈ kMark, c < 256 ∧ c ≠ 13 := by decide
    intro c hc
    simp only [List.mem_append, List.mem_cons] at hc
    rcases hc with hc | rfl | hc | rfl | hc | rfl | hc
    · exact kk c hc
    · omega
    · exact kk c hc
    · omega
    · exact h c hc
    · omega
    · exact kk c hc
  unfold cutL
  rw [split_letter hk, List.flatMap_singleton, split_encL hw, splitNL_append _ _ hk, splitNL_append _ _ hk, List.flatMap_cons, List.flatMap_cons, rows_k hn]
  generalize (splitNL (u ++ 10 :: kMark)).flatMap _ = X
  rw [List.flatMap_singleton, splitNL_free _ hk]
  show 2 < ((kMark :: kMark :: kMark :: (X ++ [kMark ++ [45, 45], []])).foldl (cutStep kMark) ([], none)).1.length
  rw [List.foldl_cons, List.foldl_cons, List.foldl_cons]
  have e0 : cutStep kMark (cutStep kMark (cutStep kMark ([], none) kMark) kMark) kMark = ([[], []], some []) := by
    simp [cutStep, joinNL]
  rw [e0, List.foldl_append]
  obtain ⟨ps, rows, e, hl⟩ := fold_some kMark X [[], []] []
  rw [e]
  have e1 : cutStep kMark (ps, some rows) (kMark ++ [45, 45]) = (ps ++ [joinNL rows], some []) := by
    unfold cutStep; rw [if_pos (.inr rfl)]
  have e2 : cutStep kMark (ps ++ [joinNL rows], some []) [] = (ps ++ [joinNL rows], some [[]]) := by
    unfold cutStep; rw [if_neg (by decide)]; rfl
  rw [List.foldl_cons, List.foldl_cons, e1, e2]
  simp only [List.foldl_nil, List.length_append, List.length_cons, List.length_nil] at hl ⊢
  omega
end Mine
end
section
open PySem PySem.W PySem.Spec PySem.Calls PyProof.Rows PyProof.V
set_option Elab.async false
namespace Mine
set_option maxRecDepth 100000
set_option maxHeartbeats 4000000

abbrev Ext (h h' : Heap) : Prop := ∀ b o, h.get? b = some o → h'.get? b = some o
theorem Ext.fr {h₀ h h' : Heap} {L : Addr} {m : Str → Option Value} (F : Fr h₀ L h m) (x : Ext h h') : Fr h₀ L h' m :=
  ⟨F.ns.keeps x, fun b o e => x b o (F.keep b o e), F.above⟩
theorem Ext.news {h₀ h h' : Heap} {L : Addr} {news : List (Addr × Obj)} (N : News h₀ L h news) (x : Ext h h') : News h₀ L h' news :=
  fun p hp => ⟨x _ _ (N p hp).1, (N p hp).2⟩
theorem Ext.newsAdd {h₀ h h' : Heap} {L D : Addr} {m : Str → Option Value} {o : Obj} {news : List (Addr × Obj)} (F : Fr h₀ L h m) (N : News h₀ L h news) (x : Ext h h') (hd : h'.get? D = some o) (hs : h.objs.size ≤ D) : News h₀ L h' ((D, o) :: news) := by
  intro p hp
  rcases List.mem_cons.mp hp with rfl | hp
  · refine ⟨hd, fun e => ?_, ?_⟩
    · have e' : D = L := e
      exact absurd (Nat.lt_of_lt_of_le F.ns.lt hs) (by rw [e']; exact Nat.lt_irrefl _)
    · cases q : h₀.get? D with
      | none => rfl
      | some z => exact absurd (Nat.lt_of_lt_of_le (Heap.lt_size (F.keep _ _ q)) hs) (Nat.lt_irrefl _)
  · exact ⟨x _ _ (N p hp).1, (N p hp).2⟩

section
variable {prog : Program} {w : World} {A₀ A : Around} {s : Shared} {base h₀ : Heap} {outer : List Env} {L : Addr} {m mg mb : Str → Option Value} {env : Env} {K : Frag} {p : Program} {loose : List Str} {mean : ExcName → Option Value}
  {R : Result → Shared → Prop} {name qual : Str} {params : Arguments} {body : List Stmt} {scope : Scope} {dV kV doc pm cdv ct oc : Value} {an od : Option Addr} {osl : Array (Option Value)} {f : Addr} {args : Args} {binds : List (Str × Value)}
/-- a call of a def that changes nothing that stood before it: all of the caller's heap is its ground -/
theorem code_pure (B : Below A₀ base outer h₀) (F : Fr h₀ L s.heap m) (X₀ : K.In h₀) (T : Top p loose mean mg mb h₀) (hA : A.frames = some (env :: outer)) (hf : env.frame = some L) (hke : env.scope.kind = .function)
    (ho : K.lookup f = some ⟨oc, od, .func (fnOf name qual params body scope dV kV doc pm an cdv ct), osl⟩) (hcd : codeIn K cdv qual = true) (hroom : A.depth < recursionLimit)
    (hbind : BindsTo s (fnOf name qual params body scope dV kV doc pm an cdv ct) args binds) (hloc : ∀ y ∈ binds, scope.names.lookup y.1 = some .local)
    (h : ∀ g L' h₁, g = s.heap → Fr g L' h₁ (fun y => binds.reverse.lookup y) → News g L' h₁ [] → Below A base (env :: outer) g → K.In g → Top p loose mean mg mb g →
      wpAny (model prog w) (A.deeper (envOf qual scope L' f cdv)) (execs body (envOf qual scope L' f cdv))
        (fun fl s' => R (.ok (.ret (match fl with | .ret v => v | _ => .none))) s')
        (fun e s' => wpAny (model prog w) (A.deeper (envOf qual scope L' f cdv)) (leaving (envOf qual scope L' f cdv) e) (fun _ s'' => R (.error e) s'') (fun e' s'' => R (.error e') s'') s')
        { s with heap := h₁, toks := s.toks + binds.length })
    (hco : scope.isCoroutine = false) (hgen : scope.isGenerator = false) (hk : scope.kind = .function)
    (hcell : ∀ x ∈ scope.names, x.2 ≠ .cell) : codeAny (model prog w) A (.call (.ref f) args) R s := by
  have X := X₀.keeps F.keep
  have B₁ := pushX B F hf hke
  have B₂ : Below A base (env :: outer) s.heap := ⟨hA, B₁.stays, B₁.frames⟩
  refine codeAny_call_def (fd := fnOf name qual params body scope dV kV doc pm an cdv ct) (body := body) (binds := binds) hroom (X _ _ ho) rfl (T.nolimit.keeps F.keep) (codeRec_of X hcd) rfl hbind hcell hloc (fun h₁ hns hk₁ => ?_) hco hgen hk
  exact h _ s.heap.objs.size h₁ rfl ⟨hns, hk₁, Nat.le_refl _⟩ News.nil B₂ X (T.keeps F.keep)
end

/-- what a def of the text gives back, said once for all callers: it asks `need` of the heap, it changes nothing, it gives `R t` -/
abbrev PClaim (prog : Program) (w : World) (K : Frag) (p : Program) (loose : List Str) (mean : ExcName → Option Value) (mg mb : Str → Option Value) (r : Nat) (f : Addr) (need : Heap → Prop) (vs : List Value) (back : Heap → Heap → Value → Prop) : Prop :=
  ∀ (dp un : Nat) (gd : Option (List Code)) (cn : Str) (cs : Scope) (a : Addr) (ccd : Value) (cl : List (Str × Addr)) (outer : List Env) (A₀ : Around) (base h₀ : Heap) (L : Addr) (m : Str → Option Value) (s : Shared) (Q E : Value → Shared → Prop),
    Below A₀ base outer h₀ → Fr h₀ L s.heap m → K.In h₀ → Top p loose mean mg mb h₀ → cs.kind = .function → need s.heap → dp + r < recursionLimit → un + 8 * r < cLine →
    (∀ (v : Value) (h' : Heap) (tk' : Nat), Ext s.heap h' → back s.heap h' v → Q v { s with heap := h', toks := tk' }) →
      wpAny (model prog w) (ktrTop dp un gd cn cs L a ccd cl outer) (call (.ref f) vs) Q E s
abbrev backS (l : List Nat) : Heap → Heap → Value → Prop := fun _ _ v => ∃ t, v = .str ⟨l.toArray⟩ t

theorem pcallN {prog : Program} {w : World} {K : Frag} {p : Program} {loose : List Str} {mean : ExcName → Option Value} {mg mb : Str → Option Value} {r : Nat} {f : Addr} {need : Heap → Prop} {vs : List Value} {back : Heap → Heap → Value → Prop}
    (C : PClaim prog w K p loose mean mg mb r f need vs back) {dp un : Nat} {gd : Option (List Code)} {cn : Str} {cs : Scope} {a : Addr} {ccd : Value} {cl : List (Str × Addr)} {outer : List Env} {A₀ : Around} {base h₀ : Heap} {L : Addr} {m : Str → Option Value} {news : List (Addr × Obj)} {s : Shared} {Q E : Value → Shared → Prop}
    (B : Below A₀ base outer h₀) (F : Fr h₀ L s.heap m) (X : K.In h₀) (N : News h₀ L s.heap news) (T : Top p loose mean mg mb h₀) (hk : cs.kind = .function) (hn : need s.heap) (hd : dp + r < recursionLimit) (hu : un + 8 * r < cLine)
    (h : ∀ (v : Value) (h' : Heap) (tk' : Nat), Ext s.heap h' → Fr h₀ L h' m → News h₀ L h' news → back s.heap h' v → Q v { s with heap := h', toks := tk' }) :
    wpAny (model prog w) (ktrTop dp un gd cn cs L a ccd cl outer) (call (.ref f) vs) Q E s :=
  C _ _ _ _ _ _ _ _ _ _ _ _ _ _ _ _ _ B F X T hk hn hd hu fun v h' tk' x b => h v h' tk' x (x.fr F) (x.news N) b

/-! a loop over a list of values, by its state -/
def ForEnd {σ : Type} (h₀ : Heap) (L : Addr) (s : Shared) (Led : σ → List (Addr × Obj)) (ps : σ → List (Str × Value)) (x : Str) (stored : List Str) (m₀ : Str → Option Value) (P : σ → Prop) (I : Addr) (o : Obj) (s₂ : Shared) : Prop :=
  ∃ (c' : σ) (h' : Heap) (tk : Nat) (m' : Str → Option Value) (news' : List (Addr × Obj)), s₂ = { s with heap := h', toks := tk } ∧ Fr h₀ L h' m' ∧ News h₀ L h' news' ∧ (I, o) ∈ news' ∧ (∀ p ∈ Led c', p ∈ news') ∧ (∀ p ∈ Led c', p.1 ≠ I) ∧ (∀ p ∈ ps c', m' p.1 = some p.2) ∧ (∀ z, z ≠ x → (∀ p ∈ ps c', z ≠ p.1) → stored.contains z = false → m' z = m₀ z) ∧ P c'
def ForPost {σ : Type} (h₀ : Heap) (L : Addr) (s : Shared) (Led : σ → List (Addr × Obj)) (ps : σ → List (Str × Value)) (x : Str) (stored : List Str) (m₀ : Str → Option Value) (P : σ → Prop) (I : Addr) (o : Obj) (Q : Flow → Shared → Prop) (f : Flow) (s₂ : Shared) : Prop :=
  match f with
  | .ret v => Q (.ret v) s₂
  | .brk => Q .next s₂
  | _ => ForEnd h₀ L s Led ps x stored m₀ P I o s₂

section
variable {prog : Program} {w : World} {A : Around} {E : Value → Shared → Prop} {s : Shared} {env : Env} {h₀ : Heap} {x : Str} {body : List Stmt} {Q : Flow → Shared → Prop}
theorem for_st {σ : Type} {l : Addr} {vs : List Value} {lo : Obj} {m₀ : Str → Option Value} (Led : σ → List (Addr × Obj)) (ps : σ → List (Str × Value)) (stored : List Str) (P : Nat → σ → Prop) (c₀ : σ)
    (hh : A.handled = none) (hc : lo.cls = .type "list") (hd : ∃ n, lo.data = .seq vs.toArray n) (hl : h₀.get? l = some lo ∨ (∀ c, (l, lo) ∈ Led c))
    (F : Fr h₀ env.locals s.heap m₀) (N : News h₀ env.locals s.heap (Led c₀)) (hk : ∀ p ∈ ps c₀, m₀ p.1 = some p.2) (hp : P 0 c₀)
    (turn : ∀ i v (c : σ) (u : Str → Option Value) h tk (I : Addr) (o : Obj), vs[i]? = some v → P i c → (∀ p ∈ Led c, p.1 ≠ I) →
      Fr h₀ env.locals h (fun y => if y = x then some v else kstB (fun z => if stored.contains z then u z else m₀ z) (ps c) y) → News h₀ env.locals h ((I, o) :: Led c) →
      wpAny (model prog w) A (execs body env) (ForPost h₀ env.locals s Led ps x stored m₀ (P (i + 1)) I o Q) E { s with heap := h, toks := tk })
    (done : ∀ (c : σ) (u : Str → Option Value) h tk, P vs.length c → Fr h₀ env.locals h (fun y => if y = x then u y else kstB (fun z => if stored.contains z then u z else m₀ z) (ps c) y) → News h₀ env.locals h (Led c) → Q .next { s with heap := h, toks := tk }) :
    wpAny (model prog w) A (pyIter (.ref l)) (fun it s₂ => LoopAtV prog w A h₀ env x body Q E it s₂) E s := by
  have hget : s.heap.get? l = some lo := hl.elim (fun e => F.keep _ _ e) fun e => (N _ (e c₀)).1
  have hls : s.heap.IsList l vs.toArray := ⟨lo, hget, hc, hd⟩
  have hne : l ≠ s.heap.objs.size := Nat.ne_of_lt (Heap.lt_size hget)
  have hLl : env.locals ≠ l := fun e => by
    rcases hl with h | h
    · exact absurd (Nat.lt_of_lt_of_le (Heap.lt_size h) F.above) (by rw [e]; exact Nat.lt_irrefl _)
    · exact (N _ (h c₀)).2.1 e.symm
  refine wpAny_pyIter_list hls ?_
  have W := Walks.list (prog := prog) (w := w) hh s.heap.objs.size l hne vs.toArray
  have hlen : vs.toArray.size = vs.length := by simp
  rw [hlen] at W
  let J : Nat → (Str → Option Value) → List (Addr × Obj) → Prop := fun i m₁ news₁ => ∃ c : σ, news₁ = Led c ∧ (∀ p ∈ ps c, m₁ p.1 = some p.2) ∧ (∀ z, z ≠ x → (∀ p ∈ ps c, z ≠ p.1) → stored.contains z = false → m₁ z = m₀ z) ∧ P i c
  refine ⟨_, _, _, vs.length, _, _, m₀, Led c₀, J, rfl, W, ?_, ?_, ?_, ⟨⟨_, Heap.get?_push_size _ rfl, rfl, rfl⟩, hls.at fun o e => Heap.get?_push_of_some _ e⟩, F.push _, (fun p hp => ⟨Heap.get?_push_of_some _ (N p hp).1, (N p hp).2⟩), ⟨c₀, rfl, hk, fun _ _ _ _ => rfl, hp⟩, ?_, ?_⟩
  · intro hm
    rcases List.mem_cons.mp hm with e | hm
    · exact absurd F.ns.lt (e ▸ Nat.lt_irrefl _)
    · exact hLl (List.mem_singleton.mp hm)
  · intro b hb
    rw [List.mem_singleton.mp hb]
    exact next_is_new F
  · intro p hp hI
    exact absurd (Heap.lt_size (N p hp).1) ((List.mem_singleton.mp hI) ▸ Nat.lt_irrefl _)
  · rintro i v m₁ news₁ s₁ own ⟨hh', tk', rfl⟩ hin hP ⟨c, rfl, h1, h2, hp'⟩ hoff hown hownget hall hst' F₁ N₁
    obtain ⟨⟨io, hio, _⟩, _⟩ := hst'
    have hIown : (s.heap.objs.size, io) ∈ own := hall _ (List.mem_cons_self ..) (next_is_new F) io hio
    have hv : vs[i]? = some v := by simpa using hP
    have hoffI : ∀ p ∈ Led c, p.1 ≠ s.heap.objs.size := fun p hp e => hoff p hp (by rw [e]; exact List.mem_singleton.mpr rfl)
    have N₂ : News h₀ env.locals hh' ((s.heap.objs.size, io) :: Led c) := fun p hp => by
      rcases List.mem_cons.mp hp with rfl | hp
      · exact N₁ _ (List.mem_append_left _ hIown)
      · exact N₁ _ (List.mem_append_right _ hp)
    refine wpAny_mono (turn i v c m₁ hh' tk' _ io hv hp' hoffI (kst_fr h1 h2 F₁) N₂) (fun f s₂ q => ?_) fun _ _ e => e
    have fin : ForEnd h₀ env.locals s Led ps x stored m₀ (P (i + 1)) s.heap.objs.size io s₂ → LoopStepU h₀ env.locals [s.heap.objs.size] own (J (i + 1)) { s with heap := hh', toks := tk' } .next s₂ := by
      rintro ⟨c', h', tk, m', news', rfl, F', N', hI', hL', hne', hk', hr', hp''⟩
      refine ⟨rfl, h', tk, m', Led c', rfl, F', fun p hp => ?_, fun p hp hb => hne' p hp (List.mem_singleton.mp hb), c', rfl, hk', hr', hp''⟩
      rcases List.mem_append.mp hp with hp | hp
      · have hfp := hown p hp
        rcases List.mem_cons.mp hfp with e | e
        · have e2 : p = (s.heap.objs.size, io) := by
            have := hownget p hp
            rw [e] at this
            have hio' : hh'.get? s.heap.objs.size = some io := hio
            rw [hio'] at this
            exact Prod.ext e (Option.some.inj this).symm
          rw [e2]; exact N' _ hI'
        · have e : p.1 = l := List.mem_singleton.mp e
          rcases hl with h | h
          · have := (N₁ p (List.mem_append_left _ hp)).2.2
            rw [e, h] at this; cases this
          · have e2 : p = (l, lo) := by
              have h3 := hownget p hp
              have h4 := (N₁ _ (List.mem_append_right _ (h c))).1
              rw [e] at h3
              have h4' : hh'.get? l = some lo := h4
              rw [h4'] at h3
              exact Prod.ext e (Option.some.inj h3).symm
            rw [e2]; exact N' _ (hL' _ (h c'))
      · exact N' p (hL' p hp)
    cases f with
    | ret v => exact .ret q
    | brk => exact .brk q
    | next => exact .next (fin q)
    | cont => exact .cont (fin q)
  · rintro h' tk m' news' F' N' _ ⟨c, rfl, h1, h2, hp'⟩
    exact done c m' h' tk hp' (kst_frOut h1 h2 F') N'
theorem for_end {σ : Type} {L : Addr} {Led : σ → List (Addr × Obj)} {ps : σ → List (Str × Value)} {stored : List Str} {m₀ m' : Str → Option Value} {P : σ → Prop} {I : Addr} {o : Obj} {h' : Heap} {tk : Nat} {news' : List (Addr × Obj)} (c' : σ)
    (F : Fr h₀ L h' m') (N : News h₀ L h' news') (hI : (I, o) ∈ news') (hn : ∀ p ∈ Led c', p ∈ news') (hne : ∀ p ∈ Led c', p.1 ≠ I) (hk : ∀ p ∈ ps c', m' p.1 = some p.2) (hr : ∀ z, z ≠ x → (∀ p ∈ ps c', z ≠ p.1) → stored.contains z = false → m' z = m₀ z) (hp : P c') :
    ForEnd h₀ L s Led ps x stored m₀ P I o { s with heap := h', toks := tk } := ⟨c', h', tk, m', news', rfl, F, N, hI, hn, hne, hk, hr, hp⟩
end

/-- the walk halts here -/
def Halt (p : Prop) : Prop := p
theorem Halt.out {p : Prop} (h : Halt p) : p := h
theorem Halt.to {p : Prop} (h : p) : Halt p := h
section
variable {prog : Program} {w : World} {A : Around} {E : Value → Shared → Prop} {s : Shared} {env : Env} {h₀ : Heap} {x : Str} {body : List Stmt} {Q : Flow → Shared → Prop}
theorem For_halt {m : Str → Option Value} {px pos : Pos} {iter : Expr} (F : Fr h₀ env.locals s.heap m) (hx : env.kindOf x = some .local)
    (hp : (env.scope.kind == .class || (env.scope.kind == .module && env.locals != env.globals)) = false)
    (h : wpAny (model prog w) A (eval iter env) (fun xv s₁ => Halt (wpAny (model prog w) A (pyIter xv) (fun it s₂ => LoopAtV prog w A h₀ env x body Q E it s₂) E s₁)) E s)
    (hs : ∀ x, foldedSetIterable iter env x = pure x := by intro _; rfl)
    (hE : PassesOwn (model prog w) A env E := by passes_own) :
    wpAny (model prog w) A (exec (.For (.Name x px) iter body [] pos) env) Q E s := For_invVF F hx hp h hs hE
end

/-! the same with the tokens left open -/
abbrev NV := List (Str × (Tok → Value))
def psT (τ : Nat → Tok) : Nat → NV → List (Str × Value)
  | _, [] => []
  | k, p :: r => (p.1, p.2 (τ k)) :: psT τ (k + 1) r
def HasT (m : Str → Option Value) : NV → Prop
  | [] => True
  | p :: r => (∃ t, m p.1 = some (p.2 t)) ∧ HasT m r
def OffT (z : Str) : NV → Prop
  | [] => True
  | p :: r => z ≠ p.1 ∧ OffT z r
theorem psT_off {τ : Nat → Tok} {z : Str} : ∀ {k : Nat} {ps : NV}, (∀ p ∈ psT τ k ps, z ≠ p.1) ↔ OffT z ps
  | _, [] => ⟨fun _ => trivial, fun _ _ h => nomatch h⟩
  | k, p :: r => by
    constructor
    · intro h; exact ⟨h _ (.head _), psT_off.mp fun q hq => h q (.tail _ hq)⟩
    · intro h q hq
      rcases List.mem_cons.mp hq with rfl | hq
      · exact h.1
      · exact psT_off.mpr h.2 q hq
theorem psT_congr {τ τ' : Nat → Tok} : ∀ {k : Nat} {ps : NV}, (∀ j, k ≤ j → τ j = τ' j) → psT τ k ps = psT τ' k ps
  | _, [], _ => rfl
  | k, p :: r, h => by
    unfold psT
    rw [h k (Nat.le_refl _), psT_congr fun j hj => h j (Nat.le_of_succ_le hj)]
theorem psT_has {m : Str → Option Value} : ∀ (k : Nat) (ps : NV), HasT m ps → ∃ τ : Nat → Tok, ∀ p ∈ psT τ k ps, m p.1 = some p.2
  | _, [], _ => ⟨fun _ => 0, fun _ h => nomatch h⟩
  | k, p :: r, h => by
    obtain ⟨⟨t, ht⟩, hr⟩ := h
    obtain ⟨τ, hτ⟩ := psT_has (k + 1) r hr
    refine ⟨fun j => if j = k then t else τ j, ?_⟩
    intro q hq
    unfold psT at hq
    rcases List.mem_cons.mp hq with rfl | hq
    · simpa using ht
    · rw [psT_congr (τ' := τ) (fun j hj => by simp; omega)] at hq
      exact hτ q hq

def TokEnd {σ : Type} (h₀ : Heap) (L : Addr) (s : Shared) (Led : σ → List (Addr × Obj)) (ps : σ → NV) (x : Str) (stored : List Str) (m₀ : Str → Option Value) (P : σ → Prop) (I : Addr) (o : Obj) (s₂ : Shared) : Prop :=
  ∃ (c' : σ) (h' : Heap) (tk : Nat) (m' : Str → Option Value) (news' : List (Addr × Obj)), s₂ = { s with heap := h', toks := tk } ∧ Fr h₀ L h' m' ∧ News h₀ L h' news' ∧ (I, o) ∈ news' ∧ (∀ p ∈ Led c', p ∈ news') ∧ (∀ p ∈ Led c', p.1 ≠ I) ∧ HasT m' (ps c') ∧ (∀ z, z ≠ x → OffT z (ps c') → stored.contains z = false → m' z = m₀ z) ∧ P c'
def TokPost {σ : Type} (h₀ : Heap) (L : Addr) (s : Shared) (Led : σ → List (Addr × Obj)) (ps : σ → NV) (x : Str) (stored : List Str) (m₀ : Str → Option Value) (P : σ → Prop) (I : Addr) (o : Obj) (Q : Flow → Shared → Prop) (f : Flow) (s₂ : Shared) : Prop :=
  match f with
  | .ret v => Q (.ret v) s₂
  | .brk => Q .next s₂
  | _ => TokEnd h₀ L s Led ps x stored m₀ P I o s₂
def WTokEnd {σ : Type} (h₀ : Heap) (L : Addr) (s : Shared) (Led : σ → List (Addr × Obj)) (ps : σ → NV) (stored : List Str) (m₀ : Str → Option Value) (P : σ → Prop) (μ : σ → Nat) (c : σ) (s₂ : Shared) : Prop :=
  ∃ (c' : σ) (h' : Heap) (tk : Nat) (m' : Str → Option Value) (news' : List (Addr × Obj)), s₂ = { s with heap := h', toks := tk } ∧ Fr h₀ L h' m' ∧ News h₀ L h' news' ∧ (∀ p ∈ Led c', p ∈ news') ∧ HasT m' (ps c') ∧ (∀ z, OffT z (ps c') → stored.contains z = false → m' z = m₀ z) ∧ P c' ∧ μ c' < μ c
def WTokPost {σ : Type} (h₀ : Heap) (L : Addr) (s : Shared) (Led : σ → List (Addr × Obj)) (ps : σ → NV) (stored : List Str) (m₀ : Str → Option Value) (P : σ → Prop) (μ : σ → Nat) (Q : Flow → Shared → Prop) (c : σ) (f : Flow) (s₂ : Shared) : Prop :=
  match f with
  | .ret v => Q (.ret v) s₂
  | .brk => Q .next s₂
  | _ => WTokEnd h₀ L s Led ps stored m₀ P μ c s₂

section
variable {prog : Program} {w : World} {A : Around} {E : Value → Shared → Prop} {s : Shared} {env : Env} {h₀ : Heap} {x : Str} {body : List Stmt} {Q : Flow → Shared → Prop}
theorem for_tok {σ : Type} {l : Addr} {vs : List Value} {lo : Obj} {m₀ : Str → Option Value} (Led : σ → List (Addr × Obj)) (ps : σ → NV) (stored : List Str) (P : Nat → σ → Prop) (c₀ : σ)
    (hh : A.handled = none) (hc : lo.cls = .type "list") (hd : ∃ n, lo.data = .seq vs.toArray n) (hl : h₀.get? l = some lo ∨ (∀ c, (l, lo) ∈ Led c))
    (F : Fr h₀ env.locals s.heap m₀) (N : News h₀ env.locals s.heap (Led c₀)) (hk : HasT m₀ (ps c₀)) (hp : P 0 c₀)
    (turn : ∀ i v (c : σ) (τ : Nat → Tok) (u : Str → Option Value) h tk (I : Addr) (o : Obj), vs[i]? = some v → P i c → (∀ p ∈ Led c, p.1 ≠ I) →
      Fr h₀ env.locals h (fun y => if y = x then some v else kstB (fun z => if stored.contains z then u z else m₀ z) (psT τ 0 (ps c)) y) → News h₀ env.locals h ((I, o) :: Led c) →
      wpAny (model prog w) A (execs body env) (TokPost h₀ env.locals s Led ps x stored m₀ (P (i + 1)) I o Q) E { s with heap := h, toks := tk })
    (done : ∀ (c : σ) (τ : Nat → Tok) (u : Str → Option Value) h tk, P vs.length c → Fr h₀ env.locals h (fun y => if y = x then u y else kstB (fun z => if stored.contains z then u z else m₀ z) (psT τ 0 (ps c)) y) → News h₀ env.locals h (Led c) → Q .next { s with heap := h, toks := tk }) :
    wpAny (model prog w) A (pyIter (.ref l)) (fun it s₂ => LoopAtV prog w A h₀ env x body Q E it s₂) E s := by
  obtain ⟨τ, hτ⟩ := psT_has 0 (ps c₀) hk
  refine for_st (σ := σ × (Nat → Tok)) (l := l) (vs := vs) (lo := lo) (fun c => Led c.1) (fun c => psT c.2 0 (ps c.1)) stored (fun i c => P i c.1) (c₀, τ) hh hc hd (hl.imp id fun h c => h c.1) F N hτ hp ?_ ?_
  · intro i v c u h tk I o hv hP hne F' N'
    refine wpAny_mono (turn i v c.1 c.2 u h tk I o hv hP hne F' N') (fun f s₂ q => ?_) fun _ _ e => e
    have fin : TokEnd h₀ env.locals s Led ps x stored m₀ (P (i + 1)) I o s₂ → ForEnd h₀ env.locals s (fun c : σ × (Nat → Tok) => Led c.1) (fun c => psT c.2 0 (ps c.1)) x stored m₀ (fun c => P (i + 1) c.1) I o s₂ := by
      rintro ⟨c', h', tk, m', news', rfl, F', N', hI, hn, hne, hk, hr, hp⟩
      obtain ⟨τ', hτ'⟩ := psT_has 0 (ps c') hk
      exact ⟨(c', τ'), h', tk, m', news', rfl, F', N', hI, hn, hne, hτ', fun z h1 h2 h3 => hr z h1 (psT_off.mp h2) h3, hp⟩
    cases f with
    | ret v => exact q
    | brk => exact q
    | next => exact fin q
    | cont => exact fin q
  · intro c u h tk hP F' N'
    exact done c.1 c.2 u h tk hP F' N'
theorem tok_end {σ : Type} {L : Addr} {Led : σ → List (Addr × Obj)} {ps : σ → NV} {stored : List Str} {m₀ m' : Str → Option Value} {P : σ → Prop} {I : Addr} {o : Obj} {h' : Heap} {tk : Nat} {news' : List (Addr × Obj)} (c' : σ)
    (F : Fr h₀ L h' m') (N : News h₀ L h' news') (hI : (I, o) ∈ news') (hn : ∀ p ∈ Led c', p ∈ news') (hne : ∀ p ∈ Led c', p.1 ≠ I) (hk : HasT m' (ps c')) (hr : ∀ z, z ≠ x → OffT z (ps c') → stored.contains z = false → m' z = m₀ z) (hp : P c') :
    TokEnd h₀ L s Led ps x stored m₀ P I o { s with heap := h', toks := tk } := ⟨c', h', tk, m', news', rfl, F, N, hI, hn, hne, hk, hr, hp⟩
theorem while_tok {σ : Type} {L : Addr} {test : Expr} {pos : Pos} {m₀ : Str → Option Value} (Led : σ → List (Addr × Obj)) (ps : σ → NV) (stored : List Str) (P : σ → Prop) (μ : σ → Nat) (c₀ : σ)
    (F : Fr h₀ L s.heap m₀) (N : News h₀ L s.heap (Led c₀)) (hk : HasT m₀ (ps c₀)) (hp : P c₀)
    (turn : ∀ (c : σ) (τ : Nat → Tok) (u : Str → Option Value) h tk, P c → Fr h₀ L h (kstB (fun z => if stored.contains z then u z else m₀ z) (psT τ 0 (ps c))) → News h₀ L h (Led c) →
      wpAny (model prog w) A (isTrue test env (eval test env)) (fun b s₂ =>
        if b = true then wpAny (model prog w) A (execs body env) (WTokPost h₀ L s Led ps stored m₀ P μ Q c) E s₂ else Q .next s₂) E { s with heap := h, toks := tk })
    (hE : PassesOwn (model prog w) A env E := by passes_own) :
    wpAny (model prog w) A (exec (.While test body [] pos) env) Q E s := by
  obtain ⟨τ, hτ⟩ := psT_has 0 (ps c₀) hk
  refine ksw_while (σ := σ × (Nat → Tok)) (fun c => Led c.1) (fun c => psT c.2 0 (ps c.1)) (fun _ => True) stored (fun c => P c.1) (fun c => μ c.1) (c₀, τ) F N trivial hτ hp ?_ hE
  intro c u h tk _ hP F' N'
  refine wpAny_mono (turn c.1 c.2 u h tk hP F' N') (fun b s₂ q => ?_) fun _ _ e => e
  cases b with
  | false => simpa using q
  | true =>
    simp only [if_true] at q ⊢
    refine wpAny_mono q (fun f s₃ q => ?_) fun _ _ e => e
    have fin : WTokEnd h₀ L s Led ps stored m₀ P μ c.1 s₃ → KswEnd h₀ L s (fun c : σ × (Nat → Tok) => Led c.1) (fun c => psT c.2 0 (ps c.1)) (fun _ => True) stored m₀ (fun c => P c.1) (fun c => μ c.1) c s₃ := by
      rintro ⟨c', h', tk, m', news', rfl, F', N', hn, hk, hr, hp, hm⟩
      obtain ⟨τ', hτ'⟩ := psT_has 0 (ps c') hk
      exact ⟨(c', τ'), h', tk, m', news', rfl, F', N', hn, trivial, hτ', fun z h2 h3 => hr z (psT_off.mp h2) h3, hp, hm⟩
    cases f with
    | ret v => exact q
    | brk => exact q
    | next => exact fin q
    | cont => exact fin q
theorem wtok_end {σ : Type} {L : Addr} {Led : σ → List (Addr × Obj)} {ps : σ → NV} {stored : List Str} {m₀ m' : Str → Option Value} {P : σ → Prop} {μ : σ → Nat} {c : σ} {h' : Heap} {tk : Nat} {news' : List (Addr × Obj)} (c' : σ)
    (F : Fr h₀ L h' m') (N : News h₀ L h' news') (hn : ∀ p ∈ Led c', p ∈ news') (hk : HasT m' (ps c')) (hr : ∀ z, OffT z (ps c') → stored.contains z = false → m' z = m₀ z) (hp : P c') (hm : μ c' < μ c) :
    WTokEnd h₀ L s Led ps stored m₀ P μ c { s with heap := h', toks := tk } := ⟨c', h', tk, m', news', rfl, F, N, hn, hk, hr, hp, hm⟩
end
end Mine
end
section
open PySem PySem.W PySem.Spec PySem.Calls PyProof.Rows PyProof.V PySem.Builtin.Str
set_option Elab.async false
namespace Mine
set_option maxRecDepth 100000
set_option maxHeartbeats 4000000

abbrev S (l : List Nat) : Str := ⟨l.toArray⟩
theorem S_length (l : List Nat) : (S l).length = l.length := by simp [Str.length]
theorem S_append (a b : List Nat) : S a ++ S b = S (a ++ b) := by
  show (⟨a.toArray ++ b.toArray⟩ : Str) = _
  simp
theorem S_toList (l : List Nat) : (S l).cps.toList = l := rfl
theorem S_of (x : Str) : x = S x.cps.toList := rfl
theorem S_inj {a b : List Nat} (h : S a = S b) : a = b := by
  have := congrArg (fun x : Str => x.cps.toList) h
  simpa using this

theorem S_sub (l : List Nat) (i j : Nat) : strSub (S l) i j = S ((l.drop i).take (j - i)) := by
  rw [S_of (strSub (S l) i j), StrLaws.strSub_toList]
theorem slice_of {x : Str} {a b : Nat} {l u : Option Int} (e : strSliceIndices l u 1 x.length = strSliceIndices (some (a : Int)) (some (b : Int)) 1 x.length) (h1 : a ≤ b) (h2 : b ≤ x.length) : Txt.slice x l u = strSub x a b := by
  have hs := StrLaws.sliced_plain x h1 h2
  have hl := StrLaws.strSliceIndices_plain (a := a) (b := b) (len := x.length) h1 h2
  rw [S_of (strSub x a b), StrLaws.strSub_toList]
  unfold Txt.slice
  rw [e]
  split
  · rename_i hh
    rw [hl] at hh
    simp only [beq_self_eq_true, Bool.true_and, beq_iff_eq, List.length_map, List.length_range] at hh
    have ha : a = 0 := by omega
    have hb : b = x.length := by omega
    subst ha hb
    rw [List.drop_zero, List.take_of_length_le (by simp [Str.length])]
  · rw [hs]
theorem slice_ss {l : List Nat} {i j : Nat} (h1 : i ≤ j) (h2 : j ≤ l.length) : Txt.slice (S l) (some (i : Int)) (some (j : Int)) = S ((l.drop i).take (j - i)) := by
  rw [slice_of rfl h1 (by rw [S_length]; exact h2), S_sub]
theorem slice_sn {l : List Nat} {i : Nat} (h1 : i ≤ l.length) : Txt.slice (S l) (some (i : Int)) none = S (l.drop i) := by
  rw [slice_of (StrLaws.sliceIdx_none_hi _ _) (b := (S l).length) (by rw [S_length]; exact h1) (Nat.le_refl _), S_sub, S_length, List.take_of_length_le (by simp)]
theorem slice_neg1 {l : List Nat} {i : Nat} (h1 : i + 1 ≤ l.length) : Txt.slice (S l) (some (i : Int)) (some (-1)) = S ((l.drop i).dropLast) := by
  have e : strSliceIndices (some (i : Int)) (some (-1)) 1 (S l).length = strSliceIndices (some (i : Int)) (some ((l.length - 1 : Nat) : Int)) 1 (S l).length := by
    rw [StrLaws.sliceIdx_neg_hi _ _ (by omega) (by rw [S_length]; omega), S_length]
    congr 2
    omega
  rw [slice_of e (by omega) (by rw [S_length]; omega), S_sub, List.dropLast_eq_take, List.length_drop]
  congr 2
  omega
theorem slice_n1 {l : List Nat} (h1 : 1 ≤ l.length) : Txt.slice (S l) none (some (-1)) = S l.dropLast := by
  have e : strSliceIndices none (some (-1)) 1 (S l).length = strSliceIndices (some ((0 : Nat) : Int)) (some ((l.length - 1 : Nat) : Int)) 1 (S l).length := by
    rw [StrLaws.sliceIdx_none_lo, StrLaws.sliceIdx_neg_hi _ _ (by omega) (by rw [S_length]; omega), S_length]
    congr 2
    omega
  rw [slice_of e (by omega) (by rw [S_length]; omega), S_sub, List.dropLast_eq_take, List.drop_zero]
  simp
theorem charAt_S {l : List Nat} {k : Nat} {c : Nat} (hc : l[k]? = some c) : Txt.charAt (S l) (k : Int) = some c := by
  have hk := (List.getElem?_eq_some_iff.mp hc).1
  have e : seqIndex? (k : Int) (S l).length = some k := by
    unfold seqIndex?
    simp only [S_length]
    have h0 : (if (k : Int) < 0 then (k : Int) + l.length else (k : Int)) = k := if_neg (by omega)
    rw [h0, if_pos (by simp; omega)]
    simp
  unfold Txt.charAt
  rw [e]
  simpa using hc
theorem item_S {l : List Nat} {k : Nat} {c : Nat} (hc : l[k]? = some c) : Txt.item (S l) (k : Int) = S [c] := by
  unfold Txt.item
  rw [charAt_S hc]; rfl
theorem item_last {l : List Nat} {c : Nat} (hc : l.getLast? = some c) : Txt.item (S l) (-1) = S [c] := by
  rw [List.getLast?_eq_getElem?] at hc
  have hk := (List.getElem?_eq_some_iff.mp hc).1
  have e : seqIndex? (-1) (S l).length = some (l.length - 1) := by
    unfold seqIndex?
    simp only [S_length]
    have h0 : (if (-1 : Int) < 0 then -1 + (l.length : Int) else -1) = ((l.length - 1 : Nat) : Int) := by rw [if_pos (by decide)]; omega
    rw [h0, if_pos (by simp; omega)]
    simp
  unfold Txt.item Txt.charAt
  rw [e]
  simp [hc]
theorem rstrip_S (l : List Nat) : Txt.rstrip (S l) = S (rstripL l) := by
  unfold Txt.rstrip
  rw [PyProof.Rows.stripBy_eq]
  unfold stripLo stripHi
  simp only [Bool.false_eq_true, if_false, if_true, List.drop_zero, S_length, S_toList]
  rw [S_sub]
  unfold rstripL
  simp only [List.drop_zero, Nat.sub_zero]
  congr 1
  have h := List.takeWhile_append_dropWhile (p := Unicode.isSpace) (l := l.reverse)
  have h2 := congrArg List.reverse h
  rw [List.reverse_append, List.reverse_reverse] at h2
  have hl : ((l.reverse.dropWhile Unicode.isSpace).reverse).length = l.length - (l.reverse.takeWhile Unicode.isSpace).length := by
    have := congrArg List.length h
    rw [List.length_append, List.length_reverse] at this
    rw [List.length_reverse]; omega
  rw [← hl]
  have e : l.take (l.reverse.dropWhile Unicode.isSpace).reverse.length = ((l.reverse.dropWhile Unicode.isSpace).reverse ++ (l.reverse.takeWhile Unicode.isSpace).reverse).take (l.reverse.dropWhile Unicode.isSpace).reverse.length := congrArg _ h2.symm
  rw [e, List.take_left]
theorem len_rstripL (l : List Nat) : (rstripL l).length ≤ l.length := by
  unfold rstripL
  rw [List.length_reverse]
  have := congrArg List.length (List.takeWhile_append_dropWhile (p := Unicode.isSpace) (l := l.reverse))
  rw [List.length_append, List.length_reverse] at this
  omega
theorem endswith_S (l : List Nat) : Txt.endswith (S l) (S [10]) = decide (l.getLast? = some 10) := by
  unfold Txt.endswith
  rw [StrLaws.subAt_eq]
  simp only [S_length, S_toList, List.length_cons, List.length_nil, Nat.zero_add]
  rcases List.eq_nil_or_concat l with rfl | ⟨a, c, rfl⟩
  · rfl
  · rw [List.concat_eq_append, List.length_append, List.getLast?_concat]
    simp
    rw [Bool.eq_iff_iff]; simp
theorem contains_one (l : List Nat) (c : Nat) : Txt.contains (S l) (S [c]) = decide (c ∈ l) := StrLaws.found_one (S l) c
theorem contains_two {l : List Nat} (h : noEU l) : Txt.contains (S l) (S [61, 95]) = false := by
  unfold Txt.contains
  have none : occurrences (S l) (S [61, 95]) 0 (S l).length 1 = [] := by
    refine occ_nil_of_no (S l) (S [61, 95]) 1 fun i hi => ?_
    rw [StrLaws.subAt_eq]
    simp only [S_toList, S_length, List.length_cons, List.length_nil, Nat.zero_add]
    have key : ∀ (l : List Nat) (i : Nat), noEU l → ((l.drop i).take 2 == [61, 95]) = false := by
      intro l
      induction l with
      | nil => intro i _; simp
      | cons c r ih =>
        intro i h
        cases i with
        | zero =>
          rw [List.drop_zero]
          cases r with
          | nil => simp
          | cons d r =>
            rw [beq_eq_false_iff_ne]
            intro e
            simp only [List.take_succ_cons, List.take_zero, List.cons.injEq, and_true] at e
            exact h.1 e.1 (by rw [e.2]; rfl)
        | succ i => exact ih i h.2
    exact key l i h
  rw [none]; rfl
theorem split_S (l : List Nat) : Txt.split (S l) (S [10]) = (splitNL l).map S := by
  have hj := StrLaws.join_split (S l) (S [10])
  have hf := StrLaws.split_free (S l) 10
  have hne : Txt.split (S l) (S [10]) ≠ [] := by
    unfold Txt.split
    split
    · simp
    · split
      · simp
      · unfold partsBetween; simp
  have key : ∀ ps : List Str, ps ≠ [] → (Str.join (S [10]) ps).cps.toList = joinNL (ps.map fun p => p.cps.toList) := by
    intro ps
    induction ps with
    | nil => intro h; exact absurd rfl h
    | cons p r ih =>
      intro _
      cases r with
      | nil => rfl
      | cons q r =>
        have := ih (by simp)
        show (p ++ S [10] ++ Str.join (S [10]) (q :: r)).cps.toList = _
        have e : (p ++ S [10] ++ Str.join (S [10]) (q :: r)).cps.toList = p.cps.toList ++ 10 :: (Str.join (S [10]) (q :: r)).cps.toList := by
          simp [Str.cps_append]
        rw [e, this]; rfl
  have h2 := key _ hne
  rw [hj, S_toList] at h2
  have h3 : splitNL l = (Txt.split (S l) (S [10])).map fun p => p.cps.toList := by
    have h4 := split_unique (ls := (Txt.split (S l) (S [10])).map fun p => p.cps.toList) (fun e => hne (List.map_eq_nil_iff.mp e)) fun p hp => by
      obtain ⟨q, hq, rfl⟩ := List.mem_map.mp hp
      exact hf q hq
    rw [← h2] at h4
    exact h4
  rw [h3, List.map_map]
  conv => lhs; rw [← List.map_id (Txt.split (S l) (S [10]))]
  rfl
theorem join_S : ∀ {ls : List (List Nat)}, Txt.join (S [10]) (ls.map S) = S (joinNL ls) := by
  intro ls
  show glued _ _ = _
  rw [StrLaws.glued_eq_join]
  induction ls with
  | nil => rfl
  | cons x r ih =>
    cases r with
    | nil => rfl
    | cons y r =>
      show S x ++ S [10] ++ Str.join (S [10]) ((y :: r).map S) = _
      rw [ih, S_append, S_append]
      simp [joinNL]
end Mine
end
section
open PySem PySem.W PySem.Spec PySem.Calls PyProof.Rows PyProof.V PySem.Builtin PySem.Builtin.Str PySem.StrLaws
set_option Elab.async false
namespace Mine
set_option maxRecDepth 100000
set_option maxHeartbeats 4000000
def brkC (c : Nat) : Prop := Unicode.isLineBreak c = true → c = 10
def linesAux : List Nat → List Nat → List (List Nat)
  | pre, [] => if pre = [] then [] else [pre]
  | pre, c :: r => if c = 10 then pre :: linesAux [] r else linesAux (pre ++ [c]) r
theorem linesNL_free {pre : List Nat} (h : 10 ∉ pre) : linesNL pre = if pre = [] then [] else [pre] := by
  unfold linesNL
  rw [splitNL_free pre h]
  by_cases e : pre = []
  · subst e; rfl
  · simp [e]
theorem linesNL_nl {pre r : List Nat} (h : 10 ∉ pre) : linesNL (pre ++ 10 :: r) = pre :: linesNL r := by
  unfold linesNL
  rw [splitNL_append _ _ h]
  cases e : splitNL r with
  | nil => exact absurd e (splitNL_ne r)
  | cons x t =>
    rw [List.getLast?_cons_cons]
    split <;> rfl
theorem linesAux_eq : ∀ (r pre : List Nat), 10 ∉ pre → linesAux pre r = linesNL (pre ++ r)
  | [], pre, h => by rw [List.append_nil, linesNL_free h]; rfl
  | c :: r, pre, h => by
    unfold linesAux
    by_cases hc : c = 10
    · subst hc
      rw [if_pos rfl, linesAux_eq r [] (by simp), linesNL_nl h]; rfl
    · rw [if_neg hc, linesAux_eq r (pre ++ [c]) (by
        intro m
        rcases List.mem_append.mp m with m | m
        · exact h m
        · exact hc (List.mem_singleton.mp m).symm)]
      simp
def spansFrom : Nat → Nat → List Nat → List (Nat × Nat × Nat)
  | start, cur, [] => if start < cur then [(start, cur, cur)] else []
  | start, cur, c :: r => if c = 10 then (start, cur, cur + 1) :: spansFrom (cur + 1) (cur + 1) r else spansFrom start (cur + 1) r
theorem brk10 : Unicode.isLineBreak 10 = true := by decide +kernel
theorem ls_step (l : List Nat) (h : ∀ c ∈ l, brkC c) : ∀ (r : List Nat) (cur start : Nat) (acc : Array (Nat × Nat × Nat)), l.drop cur = r → cur ≤ l.length → start ≤ cur →
    lsEnd (S l) (Id.run (forIn (m := Id) (List.range' cur r.length) ((acc, start) : LsSt) (lsBody (S l)))) = acc.toList ++ spansFrom start cur r
  | [], cur, start, acc, e, hc, hs => by
    have hl : cur = l.length := by
      have := congrArg List.length e
      simp only [List.length_drop, List.length_nil] at this
      omega
    show lsEnd (S l) (acc, start) = _
    unfold lsEnd spansFrom
    simp only [S_length]
    rw [hl]
    split <;> simp
  | c :: r, cur, start, acc, e, hc, hs => by
    have hlt : cur < l.length := by
      have := congrArg List.length e
      simp only [List.length_drop, List.length_cons] at this
      omega
    have hget : (S l).cps.getD cur 0 = c := by
      have := congrArg (fun x : List Nat => x[0]?) e
      simp only [List.getElem?_drop, Nat.add_zero, List.getElem?_cons_zero] at this
      simp [Array.getD_eq_getD_getElem?, this]
    have hmem : c ∈ l := by
      have : c ∈ l.drop cur := by rw [e]; exact List.mem_cons_self ..
      exact List.mem_of_mem_drop this
    have e' : l.drop (cur + 1) = r := by
      rw [← List.drop_drop, e]; rfl
    rw [List.length_cons, List.range'_succ, List.forIn_cons]
    unfold lsBody
    rw [hget]
    by_cases h10 : c = 10
    · subst h10
      have hn : lsNext (S l) cur = cur + 1 := by
        unfold lsNext
        rw [hget]
        simp
      simp only [hs, decide_true, brk10, Bool.and_true, if_true, hn]
      have ih := ls_step l h r (cur + 1) (cur + 1) (acc.push (start, cur, cur + 1)) e' hlt (Nat.le_refl _)
      rw [Array.toList_push] at ih
      simp only [spansFrom, if_true]
      rw [List.append_assoc] at ih
      exact ih
    · have hb : Unicode.isLineBreak c = false := by
        cases q : Unicode.isLineBreak c with
        | false => rfl
        | true => exact absurd (h c hmem q) h10
      simp only [hb, Bool.and_false, Bool.false_eq_true, if_false]
      have ih := ls_step l h r (cur + 1) start acc e' hlt (by omega)
      simp only [spansFrom, h10, if_false]
      exact ih
theorem spans_lines (l : List Nat) : ∀ (r : List Nat) (cur start : Nat), l.drop cur = r → cur ≤ l.length → start ≤ cur →
    (spansFrom start cur r).map (fun (p : Nat × Nat × Nat) => strSub (S l) p.1 p.2.1) = (linesAux ((l.drop start).take (cur - start)) r).map S
  | [], cur, start, e, hc, hs => by
    unfold spansFrom linesAux
    have hlen : ((l.drop start).take (cur - start)).length = cur - start := by simp; omega
    by_cases hh : start < cur
    · rw [if_pos hh, if_neg (by intro q; rw [q] at hlen; simp at hlen; omega)]
      simp [S_sub]
    · rw [if_neg hh, if_pos (List.length_eq_zero_iff.mp (by omega))]; rfl
  | c :: r, cur, start, e, hc, hs => by
    have hlt : cur < l.length := by
      have := congrArg List.length e
      simp only [List.length_drop, List.length_cons] at this
      omega
    have e' : l.drop (cur + 1) = r := by
      rw [← List.drop_drop, e]; rfl
    unfold spansFrom linesAux
    by_cases h10 : c = 10
    · subst h10
      rw [if_pos rfl, if_pos rfl, List.map_cons, List.map_cons, spans_lines l r (cur + 1) (cur + 1) e' hlt (Nat.le_refl _), S_sub]
      simp
    · rw [if_neg h10, if_neg h10, spans_lines l r (cur + 1) start e' hlt (by omega)]
      congr 2
      have hget : l[cur]? = some c := by
        have := congrArg (fun x : List Nat => x[0]?) e
        simpa using this
      rw [show cur + 1 - start = (cur - start) + 1 by omega, List.take_add_one, List.getElem?_drop, show start + (cur - start) = cur by omega, hget]
      rfl
theorem lines_S {l : List Nat} (h : ∀ c ∈ l, brkC c) : Txt.lines (S l) = (linesNL l).map S := by
  have e1 : linesOf (S l) = (linesNL l).map S := by
    unfold linesOf lineCuts
    rw [List.map_map]
    have e : lineSpans (S l) = spansFrom 0 0 l := by
      rw [ls_eq, S_length]
      have := ls_step l h l 0 0 #[] rfl (Nat.zero_le _) (Nat.le_refl _)
      simpa using this
    rw [e]
    have := spans_lines l l 0 0 rfl (Nat.zero_le _) (Nat.le_refl _)
    rw [linesAux_eq _ _ (by simp)] at this
    simp only [List.drop_zero, Nat.sub_self, List.take_zero, List.nil_append] at this
    rw [← this]
    refine List.map_congr_left fun p _ => ?_
    obtain ⟨i, j, k⟩ := p
    rfl
  unfold Txt.lines
  split
  · rename_i hh
    rw [← e1]
    unfold linesOf
    rw [beq_iff_eq.mp hh]
    simp only [List.map_cons, List.map_nil, S_length]
    rw [S_sub]
    simp
  · exact e1
end Mine
end
section
open PySem PySem.W PySem.Spec PySem.Calls PyProof.Rows PyProof.V PySem.Builtin.Str
set_option Elab.async false
namespace Mine
set_option maxRecDepth 100000
set_option maxHeartbeats 4000000
theorem lit_nl : Str.ofString "\n" = S [10] := by decide +kernel
theorem lit_e : Str.ofString "" = S [] := by decide +kernel
theorem lit_eq : Str.ofString "=" = S [61] := by decide +kernel
theorem lit_bl : Str.ofString " \t" = S [32, 9] := by decide +kernel
theorem lit_crlf : Str.ofString "\x0d\n" = S [13, 10] := by decide +kernel
theorem lit_crlf' : Str.ofString "\u000d\n" = S [13, 10] := by decide +kernel
theorem lit_dd : Str.ofString "--" = S [45, 45] := by decide +kernel
theorem lit_eu : Str.ofString "=_" = S [61, 95] := by decide +kernel
theorem lit_k : Str.ofString "--k" = S kMark := by decide +kernel
theorem lit_kk : Str.ofString "--k\n--k\n" = S (kMark ++ 10 :: (kMark ++ [10])) := by decide +kernel
theorem lit_nk : Str.ofString "\n--k" = S (10 :: kMark) := by decide +kernel
def hexL : List Nat := [48, 49, 50, 51, 52, 53, 54, 55, 56, 57, 97, 98, 99, 100, 101, 102, 65, 66, 67, 68, 69, 70]
theorem lit_hex : Str.ofString "0123456789abcdefABCDEF" = S hexL := by decide +kernel
theorem hex_mem (c : Nat) : decide (c ∈ hexL) = isHex c := by
  rw [Bool.eq_iff_iff, decide_eq_true_eq]
  unfold hexL isHex
  simp only [List.mem_cons, List.not_mem_nil, or_false, Bool.or_eq_true, Bool.and_eq_true, decide_eq_true_eq]
  omega
theorem fit63 {n : Nat} (h : n ≤ 16777216) : ((n : Nat) : Int) < 9223372036854775808 := by omega
section
variable {prog : Program} {w : World} {A : Around} {E : Value → Shared → Prop} {s : Shared} {x y : Str} {t u : Tok} {a b l : List Nat} {c : Nat} {Q : Value → Shared → Prop}
theorem addS (hx : x = S a) (hy : y = S b) (hsz : a.length + b.length ≤ 16777216) (h : ∀ t' k, Q (.str (S (a ++ b)) t') { s with toks := k }) : wpAny (model prog w) A (binaryOp .Add (.str x t) (.str y u)) Q E s := by
  subst hx hy
  exact SB.add (fun t' k => by rw [S_append]; exact h t' k) (by rw [S_length, S_length]; exact hsz)
theorem iaddS (hx : x = S a) (hy : y = S b) (hsz : a.length + b.length ≤ 16777216) (h : ∀ t' k, Q (.str (S (a ++ b)) t') { s with toks := k }) : wpAny (model prog w) A (inplaceOp .Add (.str x t) (.str y u)) Q E s := by
  subst hx hy
  exact SB.iadd (fun t' k => by rw [S_append]; exact h t' k) (by rw [S_length, S_length]; exact hsz)
theorem eqS (hx : x = S a) (hy : y = S b) (h : Q (.bool (decide (a = b))) s) : wpAny (model prog w) A (compareOp .Eq (.str x t) (.str y u)) Q E s := by
  subst hx hy
  refine P.eq_str ?_
  have e : ((S a).cps.toList == (S b).cps.toList) = decide (a = b) := by rw [Bool.eq_iff_iff]; simp
  rw [e]; exact h
theorem neS (hx : x = S a) (hy : y = S b) (h : Q (.bool (!decide (a = b))) s) : wpAny (model prog w) A (compareOp .NotEq (.str x t) (.str y u)) Q E s := by
  subst hx hy
  refine P.ne_str ?_
  have e : ((S a).cps.toList != (S b).cps.toList) = !decide (a = b) := by rw [Bool.eq_iff_iff]; simp
  rw [e]; exact h
theorem in1S (hx : x = S l) (hy : y = S [c]) (h : Q (.bool (decide (c ∈ l))) s) : wpAny (model prog w) A (compareOp .In (.str y u) (.str x t)) Q E s := by
  subst hx hy
  exact SB.contains (by rw [contains_one]; exact h)
theorem notin1S (hx : x = S l) (hy : y = S [c]) (h : Q (.bool (!decide (c ∈ l))) s) : wpAny (model prog w) A (compareOp .NotIn (.str y u) (.str x t)) Q E s := by
  subst hx hy
  exact SB.notContains (by rw [contains_one]; exact h)
theorem in2S (hx : x = S l) (hy : y = S [61, 95]) (hl : noEU l) (h : Q (.bool false) s) : wpAny (model prog w) A (compareOp .In (.str y u) (.str x t)) Q E s := by
  subst hx hy
  exact SB.contains (by rw [contains_two hl]; exact h)
theorem lenS (hx : x = S l) (hsz : l.length ≤ 16777216) (h : Q (.int (l.length : Int) (s.toks + 1)) { s with toks := s.toks + 1 + 1 }) : wpAny (model prog w) A (call (.builtin "len") [.str x t]) Q E s := by
  subst hx
  exact SBL.len (by rw [S_length]; exact fit63 hsz) (by rw [S_length]; exact h)
theorem truthyS {Q : Bool → Shared → Prop} (hx : x = S l) (hsz : l.length ≤ 16777216) (h : Q (!decide (l = [])) { s with toks := s.toks + 1 + 1 }) : wpAny (model prog w) A (PySem.truthy (.str x t)) Q E s := by
  subst hx
  refine SBL.truthy (by rw [S_length]; exact fit63 hsz) ?_
  have e : (((S l).length : Int) != 0) = !decide (l = []) := by
    rw [S_length, Bool.eq_iff_iff]
    cases l with
    | nil => simp
    | cons a r => simp; omega
  rw [e]; exact h
theorem rstripS (hx : x = S l) (hsz : l.length ≤ 16777216) (h : ∀ t' k, Q (.str (S (rstripL l)) t') { s with toks := k }) : wpAny (model prog w) A (call (.builtin "str.rstrip") [.str x t]) Q E s := by
  subst hx
  exact SCL.rstrip (fun t' k _ => by rw [rstrip_S]; exact h t' k) (by rw [S_length]; exact hsz)
theorem endswithS (hx : x = S l) (hy : y = S [10]) (h : Q (.bool (decide (l.getLast? = some 10))) s) : wpAny (model prog w) A (call (.builtin "str.endswith") [.str x t, .str y u]) Q E s := by
  subst hx hy
  exact SC.endswith (by rw [endswith_S]; exact h)
theorem itemS {value slice : PySem.Expr} {i : Int} (hx : x = S l) (h0 : 0 ≤ i) (h1 : i < l.length) (h2 : i < 9223372036854775808) (h : Q (.str (S [l.getD i.toNat 0]) s.toks) { s with toks := s.toks + 1 })
    (hs : subscripted slice false (.str x t) (.int i u) = operate [.str x t, .int i u] (getItem (.str x t) (.int i u)) := by with_unfolding_all rfl)
    (ht : ∀ r, letTemporaryGo value (.str x t) r = pure () := by intro _; with_unfolding_all rfl) : wpAny (model prog w) A (subscriptTail value slice (.str x t) (.int i u)) Q E s := by
  subst hx
  refine item_str (fitsSsize_of (N := 9223372036854775808) (by omega) (by omega) (Int.le_refl _)) (by rw [S_length]; omega) (by rw [S_length]; omega) (fun _ => ?_) hs ht
  have hk : i.toNat < l.length := by omega
  have e : Txt.item (S l) i = S [l.getD i.toNat 0] := by
    have := item_S (l := l) (k := i.toNat) (c := l[i.toNat]) (by simp [hk])
    rw [show ((i.toNat : Nat) : Int) = i by omega] at this
    rw [this]
    simp [List.getD_eq_getElem?_getD, hk]
  rw [e]; exact h
theorem itemLastS {value slice : PySem.Expr} (hx : x = S l) (hc : l.getLast? = some c) (h : Q (.str (S [c]) s.toks) { s with toks := s.toks + 1 })
    (hs : subscripted slice false (.str x t) (.int (-1) u) = operate [.str x t, .int (-1) u] (getItem (.str x t) (.int (-1) u)) := by with_unfolding_all rfl)
    (ht : ∀ r, letTemporaryGo value (.str x t) r = pure () := by intro _; with_unfolding_all rfl) : wpAny (model prog w) A (subscriptTail value slice (.str x t) (.int (-1) u)) Q E s := by
  subst hx
  have hl : 1 ≤ l.length := by
    cases l with
    | nil => cases hc
    | cons => simp
  refine item_str (by decide) (by rw [S_length]; omega) (by rw [S_length]; omega) (fun _ => ?_) hs ht
  rw [item_last hc]; exact h
theorem getLastD_of {l : List Nat} (h : ¬ l = []) : l.getLast? = some (l.getLastD 0) := by
  cases l with
  | nil => exact absurd rfl h
  | cons a r => rw [List.getLast?_eq_some_getLast (by simp)]; rfl
theorem itemLastS' {value slice : PySem.Expr} (hx : x = S l) (hne : ¬ l = []) (h : Q (.str (S [l.getLastD 0]) s.toks) { s with toks := s.toks + 1 })
    (hs : subscripted slice false (.str x t) (.int (-1) u) = operate [.str x t, .int (-1) u] (getItem (.str x t) (.int (-1) u)) := by with_unfolding_all rfl)
    (ht : ∀ r, letTemporaryGo value (.str x t) r = pure () := by intro _; with_unfolding_all rfl) : wpAny (model prog w) A (subscriptTail value slice (.str x t) (.int (-1) u)) Q E s :=
  itemLastS hx (getLastD_of hne) h hs ht
variable {h₀ : Heap} {L : Addr} {m : Str → Option Value} {news : List (Addr × Obj)} {value slice : PySem.Expr} {i j : Int} {ui uj : Tok}
theorem toNat_cast {i : Int} (h : 0 ≤ i) : ((i.toNat : Nat) : Int) = i := by omega
theorem sliceSS (hF : Fr h₀ L s.heap m) (hN : News h₀ L s.heap news) (hx : x = S l) (hsz : l.length ≤ 16777216) (h0 : 0 ≤ i) (h1 : i ≤ j) (h2 : j ≤ l.length) (h : ∀ h' t' k, Fr h₀ L h' m → News h₀ L h' news → Q (.str (S ((l.drop i.toNat).take (j.toNat - i.toNat))) t') { s with heap := h', toks := k })
    (hs : subscripted slice false (.str x t) (.ref s.heap.objs.size) = operate [.ref s.heap.objs.size, .str x t] (getItem (.str x t) (.ref s.heap.objs.size)) := by with_unfolding_all rfl)
    (ht : ∀ r, letTemporaryGo value (.str x t) r = pure () := by intro _; with_unfolding_all rfl) :
    wpAny (model prog w) A (subscriptTail value slice (.str x t) (.ref s.heap.objs.size)) Q E { s with heap := s.heap.push { cls := .type "slice", data := .fields #[.int i ui, .int j uj, .none] } } := by
  subst hx
  refine slice_strN_ss hF hN (fun h' t' k F' N' => ?_) hs ht (by rw [S_length]; exact hsz)
  have e := slice_ss (l := l) (i := i.toNat) (j := j.toNat) (by omega) (by omega)
  rw [toNat_cast h0, toNat_cast (by omega)] at e
  rw [e]; exact h h' t' k F' N'
theorem sliceSN (hF : Fr h₀ L s.heap m) (hN : News h₀ L s.heap news) (hx : x = S l) (hsz : l.length ≤ 16777216) (h0 : 0 ≤ i) (h2 : i ≤ l.length) (h : ∀ h' t' k, Fr h₀ L h' m → News h₀ L h' news → Q (.str (S (l.drop i.toNat)) t') { s with heap := h', toks := k })
    (hs : subscripted slice false (.str x t) (.ref s.heap.objs.size) = operate [.ref s.heap.objs.size, .str x t] (getItem (.str x t) (.ref s.heap.objs.size)) := by with_unfolding_all rfl)
    (ht : ∀ r, letTemporaryGo value (.str x t) r = pure () := by intro _; with_unfolding_all rfl) :
    wpAny (model prog w) A (subscriptTail value slice (.str x t) (.ref s.heap.objs.size)) Q E { s with heap := s.heap.push { cls := .type "slice", data := .fields #[.int i ui, .none, .none] } } := by
  subst hx
  refine slice_strN_sn hF hN (fun h' t' k F' N' => ?_) hs ht (by rw [S_length]; exact hsz)
  have e := slice_sn (l := l) (i := i.toNat) (by omega)
  rw [toNat_cast h0] at e
  rw [e]; exact h h' t' k F' N'
theorem sliceNeg (hF : Fr h₀ L s.heap m) (hN : News h₀ L s.heap news) (hx : x = S l) (hsz : l.length ≤ 16777216) (h0 : 0 ≤ i) (h2 : i + 1 ≤ l.length) (h : ∀ h' t' k, Fr h₀ L h' m → News h₀ L h' news → Q (.str (S ((l.drop i.toNat).dropLast)) t') { s with heap := h', toks := k })
    (hs : subscripted slice false (.str x t) (.ref s.heap.objs.size) = operate [.ref s.heap.objs.size, .str x t] (getItem (.str x t) (.ref s.heap.objs.size)) := by with_unfolding_all rfl)
    (ht : ∀ r, letTemporaryGo value (.str x t) r = pure () := by intro _; with_unfolding_all rfl) :
    wpAny (model prog w) A (subscriptTail value slice (.str x t) (.ref s.heap.objs.size)) Q E { s with heap := s.heap.push { cls := .type "slice", data := .fields #[.int i ui, .int (-1) uj, .none] } } := by
  subst hx
  refine slice_strN_ss hF hN (fun h' t' k F' N' => ?_) hs ht (by rw [S_length]; exact hsz)
  have e := slice_neg1 (l := l) (i := i.toNat) (by omega)
  rw [toNat_cast h0] at e
  rw [e]; exact h h' t' k F' N'
theorem sliceUpNeg (hF : Fr h₀ L s.heap m) (hN : News h₀ L s.heap news) (hx : x = S l) (hsz : l.length ≤ 16777216) (h2 : 1 ≤ l.length) (h : ∀ h' t' k, Fr h₀ L h' m → News h₀ L h' news → Q (.str (S l.dropLast) t') { s with heap := h', toks := k })
    (hs : subscripted slice false (.str x t) (.ref s.heap.objs.size) = operate [.ref s.heap.objs.size, .str x t] (getItem (.str x t) (.ref s.heap.objs.size)) := by with_unfolding_all rfl)
    (ht : ∀ r, letTemporaryGo value (.str x t) r = pure () := by intro _; with_unfolding_all rfl) :
    wpAny (model prog w) A (subscriptTail value slice (.str x t) (.ref s.heap.objs.size)) Q E { s with heap := s.heap.push { cls := .type "slice", data := .fields #[.none, .int (-1) uj, .none] } } := by
  subst hx
  refine slice_strN_ns hF hN (fun h' t' k F' N' => ?_) hs ht (by rw [S_length]; exact hsz)
  rw [slice_n1 h2]; exact h h' t' k F' N'

/-- a list of texts -/
def StrL (vs : List Value) (ls : List (List Nat)) : Prop := ∃ ts : List (Str × Tok), vs = strValues ts ∧ ts.map (·.1) = ls.map S
theorem StrL.nil : StrL [] [] := ⟨[], rfl, rfl⟩
theorem strValues_map (ts : List (Str × Tok)) : strValues ts = ts.map fun p => Value.str p.1 p.2 := by
  induction ts with
  | nil => rfl
  | cons p r ih => show Value.str p.1 p.2 :: strValues r = _; rw [ih]; rfl
theorem StrL.snoc {vs : List Value} {ls : List (List Nat)} (h : StrL vs ls) (r : List Nat) (t : Tok) : StrL (vs ++ [.str (S r) t]) (ls ++ [r]) := by
  obtain ⟨ts, rfl, e⟩ := h
  refine ⟨ts ++ [(S r, t)], ?_, by rw [List.map_append, List.map_append, e]; rfl⟩
  rw [strValues_map, strValues_map, List.map_append]; rfl
theorem StrL.length {vs : List Value} {ls : List (List Nat)} (h : StrL vs ls) : vs.length = ls.length := by
  obtain ⟨ts, rfl, e⟩ := h
  have := congrArg List.length e
  rw [List.length_map, List.length_map] at this
  rw [strValues_map, List.length_map, this]
theorem StrL.get {vs : List Value} {ls : List (List Nat)} (h : StrL vs ls) {i : Nat} {v : Value} (hv : vs[i]? = some v) : ∃ r tk, ls[i]? = some r ∧ v = .str (S r) tk := by
  obtain ⟨ts, rfl, e⟩ := h
  rw [strValues_map, List.getElem?_map] at hv
  obtain ⟨p, hp, rfl⟩ := Option.map_eq_some_iff.mp hv
  have := congrArg (fun l : List Str => l[i]?) e
  simp only [List.getElem?_map, hp, Option.map_some] at this
  obtain ⟨r, hr, e2⟩ := Option.map_eq_some_iff.mp this.symm
  exact ⟨r, p.2, hr, by rw [← e2]⟩
theorem strValues_are (ts : List (Str × Tok)) : StrsAre (strValues ts) (ts.map (·.1)) := by
  rw [strValues_map]
  induction ts with
  | nil => exact .nil
  | cons p r ih => exact .cons _ _ ih
theorem StrL.are {vs : List Value} {ls : List (List Nat)} (h : StrL vs ls) : StrsAre vs (ls.map S) := by
  obtain ⟨ts, rfl, e⟩ := h
  rw [← e]
  exact strValues_are ts
theorem joinS {D : Addr} {vs : List Value} {ls : List (List Nat)} (hl : s.heap.IsList D vs.toArray) (hv : StrL vs ls) (hx : x = S [10]) (hsz : (ls.map fun l => l.length + 1).sum ≤ 16777216) (h : ∀ t' k, Q (.str (S (joinNL ls)) t') { s with toks := k }) :
    wpAny (model prog w) A (call (.builtin "str.join") [.str x t, .ref D]) Q E s := by
  subst hx
  refine join_list (ys := ls.map S) hl hv.are ?_ (fun t' k => by rw [join_S]; exact h t' k)
  have : ((ls.map S).map (·.length)).sum + (ls.map S).length * (S [10]).length = (ls.map fun l => l.length + 1).sum := by
    clear hsz h hv
    induction ls with
    | nil => rfl
    | cons a r ih =>
      simp only [List.map_cons, List.sum_cons, List.length_cons, S_length, List.length_nil, Nat.zero_add, Nat.mul_one] at ih ⊢
      omega
  omega
theorem splitlinesS (hF : Fr h₀ L s.heap m) (hN : News h₀ L s.heap news) (hx : x = S l) (hb : ∀ c ∈ l, brkC c) (hsz : l.length + 1 ≤ 16777216)
    (h : ∀ D vs h' k, StrL vs (linesNL l) → Fr h₀ L h' m → News h₀ L h' ((D, listOf vs.toArray 0) :: news) → (∀ p ∈ news, p.1 < D) → Q (.ref D) { s with heap := h', toks := k }) :
    wpAny (model prog w) A (call (.builtin "str.splitlines") [.str x t]) Q E s := by
  subst hx
  refine splitlinesN hF hN (fun ts h' k e F' N' => h _ _ h' k ⟨ts, rfl, by rw [e, lines_S hb]⟩ F' N' fun p hp => Heap.lt_size (hN p hp).1) (by rw [S_length]; exact (by omega : l.length ≤ 16777216)) ?_
  have := lineCuts_le (S l)
  rw [S_length] at this
  exact (by omega : (lineCuts (S l)).length ≤ 16777216)
theorem splitS (hF : Fr h₀ L s.heap m) (hN : News h₀ L s.heap news) (hx : x = S l) (hy : y = S [10]) (hsz : l.length + 2 ≤ 16777216)
    (h : ∀ D vs h' k, StrL vs (splitNL l) → Fr h₀ L h' m → News h₀ L h' ((D, listOf vs.toArray 0) :: news) → (∀ p ∈ news, p.1 < D) → Q (.ref D) { s with heap := h', toks := k }) :
    wpAny (model prog w) A (call (.builtin "str.split") [.str x t, .str y u]) Q E s := by
  subst hx hy
  exact splitN1 hF hN rfl (fun ts h' k e F' N' => h _ _ h' k ⟨ts, rfl, by rw [e, split_S]⟩ F' N' fun p hp => Heap.lt_size (hN p hp).1) (by rw [S_length]; exact hsz)
end
end Mine
end
section
open PySem PySem.W PySem.Spec PySem.Calls PyProof.Rows PyProof.V PySem.Builtin PySem.Builtin.Str
set_option Elab.async false
namespace Mine
set_option maxRecDepth 100000
set_option maxHeartbeats 4000000
theorem wp_forIn_list {α β : Type} {M : Model} {A : Around} {E : Value → Shared → Prop} (f : α → β → Sem (ForInStep β)) (Inv : List α → β → Shared → Prop) :
    ∀ (l done : List α) (b : β) (s : Shared), Inv done b s →
      (∀ c r done' b' s', done ++ l = done' ++ c :: r → Inv done' b' s' → wpAny M A (f c b') (fun st s'' => ∃ b'', st = .yield b'' ∧ Inv (done' ++ [c]) b'' s'') E s') →
      wpAny M A (forIn l b f) (fun b' s' => Inv (done ++ l) b' s') E s
  | [], done, b, s, hi, _ => by
    rw [List.forIn_nil, List.append_nil]
    exact wpAny_pure hi
  | c :: l, done, b, s, hi, step => by
    rw [List.forIn_cons]
    refine wpAny_bind (wpAny_mono (step c l done b s rfl hi) (fun st s' h => ?_) fun _ _ e => e)
    obtain ⟨b', rfl, hi'⟩ := h
    have := wp_forIn_list f Inv l (done ++ [c]) b' s' hi' (fun c' r done' b' s' e hi => step c' r done' b' s' (by rw [← e]; simp) hi)
    rw [List.append_assoc] at this
    exact this
theorem wp_lookup {prog : Program} {w : World} {A : Around} {E : Value → Shared → Prop} {s : Shared} {Q : Mapped → Shared → Prop} {D : Addr} {items : Array Value} {c : Nat} {x : Str} {tk : Tok}
    (hD : s.heap.IsList D items) (hc : c < 2 ^ 62) (hx : items[c]? = some (.str x tk)) (h : Q (.text x) { s with toks := s.toks + 1 }) : wpAny (model prog w) A (tableLookup (.ref D) c) Q E s := by
  unfold tableLookup
  refine wpAny_bind (wpAny_attempt (wpAny_bind (wpAny_mkInt ?_)))
  refine wpAny_getItem_list (s := { s with toks := s.toks + 1 }) hD (by omega) (by omega) (by simpa using hx) ?_
  dsimp only
  obtain ⟨hp, g, d, tk', os⟩ := s
  repeat (any_goals (first | assumption | wp_step))
def TrSpec (tr : Nat → List Nat) (l : List Nat) (D : Addr) (items : Array Value) : PySem.Spec := fun _ R s => s.heap.IsList D items ∧ ∀ t' k, R (.ok (.ret (.str (S (l.flatMap tr)) t'))) { s with toks := k }
abbrev TrSt := List Str × Nat × Bool × List (Nat × Option Nat) × Bool
def TrInv (tr : Nat → List Nat) (s : Shared) (done : List Nat) (b : TrSt) (s' : Shared) : Prop :=
  (∃ k, s' = { s with toks := k }) ∧ b.1.reverse.foldl (fun acc p => acc ++ p.cps) #[] = (done.flatMap tr).toArray ∧ b.2.1 = (done.flatMap tr).length ∧ (∀ c a, b.2.2.2.1.lookup c = some a → ∃ d, tr c = [d] ∧ a = some d) ∧ b.2.2.2.2 = false
theorem lookup_cons_some {known : List (Nat × Option Nat)} {c c' : Nat} {a a' : Option Nat} (h : List.lookup c' ((c, a) :: known) = some a') : (c' = c ∧ a' = a) ∨ known.lookup c' = some a' := by
  rw [List.lookup_cons] at h
  by_cases e : c' = c
  · subst e; simp at h; exact .inl ⟨rfl, h.symm⟩
  · have : (c' == c) = false := by simp [e]
    rw [this] at h
    exact .inr h
theorem meets_translate (tr : Nat → List Nat) {l : List Nat} (t : Tok) {D : Addr} {items : Array Value} (hlt : ∀ c ∈ l, c < 2 ^ 62) (hit : ∀ c ∈ l, ∃ tk, items[c]? = some (.str (S (tr c)) tk)) (hsz : (l.flatMap tr).length ≤ sizeLine) :
    Meets (Builtin.«str.translate» ⟨[.str (S l) t, .ref D], []⟩) (TrSpec tr l D items) := by
  intro prog w A R s hs
  obtain ⟨hD, hR⟩ := hs
  by_cases h0 : l = []
  · subst h0
    have hR' := hR t s.toks
    obtain ⟨hp, g, d, tk, os⟩ := s
    have hne : ((S []).length == 0) = true := rfl
    repeat (any_goals (first | assumption | wp_step))
  · have hne : ((S l).length == 0) = false := by
      rw [S_length, beq_eq_false_iff_ne]
      intro e
      exact h0 (List.length_eq_zero_iff.mp e)
    unfold Builtin.«str.translate»
    refine wpAny_bind (m := strOneArg "translate" _) (wpAny_pure ?_)
    dsimp only
    rw [hne]
    simp only [Bool.false_eq_true, if_false]
    rw [← Array.forIn_toList]
    refine wpAny_bind ?_
    have loop := fun f b h1 h2 => wp_forIn_list (M := model prog w) (A := A.in1) (E := fun e s' => R (.error e) s') f (TrInv tr s) l [] b s h1 h2
    refine wpAny_mono (loop _ _ ⟨⟨s.toks, rfl⟩, rfl, rfl, fun c a h => by simp at h, rfl⟩ ?_) (fun b s' hi => ?_) fun _ _ e => e
    · intro c r done' b' s' e hi
      obtain ⟨pieces, total, fast, known, afterDrop⟩ := b'
      obtain ⟨⟨k, rfl⟩, h1, h2, h3, h4⟩ := hi
      simp only at h1 h2 h3 h4
      subst h2 h4
      rw [List.nil_append] at e
      have hmem : c ∈ l := by rw [e]; simp
      obtain ⟨tk, hx⟩ := hit c hmem
      have hc := hlt c hmem
      have hle : (done'.flatMap tr).length + (tr c).length ≤ sizeLine := by
        rw [e, List.flatMap_append, List.flatMap_cons, List.length_append, List.length_append] at hsz
        omega
      have htl : tooLong (done'.flatMap tr).length = false := by unfold tooLong; exact decide_eq_false (by omega)
      have after : ∀ (k' : Nat) (known' : List (Nat × Option Nat)) (fast' : Bool) (p : Str), p = S (tr c) → (∀ c a, known'.lookup c = some a → ∃ d, tr c = [d] ∧ a = some d) → ∀ n, n = (done'.flatMap tr).length + (tr c).length →
          TrInv tr s (done' ++ [c]) (p :: pieces, n, fast', known', false) { s with toks := k' } := by
        intro k' known' fast' p hp hk n hn
        refine ⟨⟨k', rfl⟩, ?_, ?_, hk, rfl⟩
        · simp only [List.reverse_cons, List.foldl_append, List.foldl_cons, List.foldl_nil]
          rw [h1, hp, List.flatMap_append]
          simp
        · simp only [List.flatMap_append, List.length_append, List.flatMap_cons, List.flatMap_nil, List.append_nil]
          exact hn
      dsimp only
      rw [htl]
      simp only [Bool.false_eq_true, if_false]
      have slow : ∀ (k' : Nat) (known' : List (Nat × Option Nat)) (fast' : Bool), (∀ c a, known'.lookup c = some a → ∃ d, tr c = [d] ∧ a = some d) →
          wpAny (model prog w) A.in1 (do
            match (← tableLookup (Value.ref D) c) with
            | Mapped.keep => pure (ForInStep.yield ((({ cps := #[c] } : Str) :: pieces, (done'.flatMap tr).length + 1, fast', known', false) : TrSt))
            | Mapped.drop => pure (ForInStep.yield (pieces, (done'.flatMap tr).length, fast', known', true))
            | Mapped.char d => pure (ForInStep.yield (({ cps := #[d] } : Str) :: pieces, (done'.flatMap tr).length + 1, fast', known', false))
            | Mapped.text t => pure (ForInStep.yield (t :: pieces, (done'.flatMap tr).length + t.length, fast', known', false)))
            (fun st s'' => ∃ b'', st = .yield b'' ∧ TrInv tr s (done' ++ [c]) b'' s'') (fun e s' => R (.error e) s') { s with toks := k' } := by
        intro k' known' fast' hk
        refine wpAny_bind (wp_lookup (s := { s with toks := k' }) hD hc hx ?_)
        exact wpAny_pure ⟨_, rfl, after _ _ _ _ rfl hk _ (by rw [S_length])⟩
      cases fast with
      | false =>
        simp only [Bool.false_eq_true, if_false]
        exact slow k known false h3
      | true =>
        simp only [if_true]
        cases hl : known.lookup c with
        | some a =>
          obtain ⟨d, hd, rfl⟩ := h3 c a hl
          refine wpAny_bind (wpAny_pure ?_)
          dsimp only
          exact wpAny_pure ⟨_, rfl, after k known true ⟨#[d]⟩ (by rw [hd]) h3 _ (by rw [hd]; rfl)⟩
        | none =>
          refine wpAny_bind (wp_lookup (s := { s with toks := k }) hD hc hx ?_)
          dsimp only
          by_cases hone : ((S (tr c)).length == 1 && (S (tr c)).cps.all fun x => decide (x < 128)) = true
          · rw [if_pos hone]
            rw [Bool.and_eq_true, S_length, beq_iff_eq] at hone
            obtain ⟨d, hd⟩ := List.length_eq_one_iff.mp hone.1
            refine wpAny_bind (wpAny_pure ?_)
            have e0 : (S (tr c)).cps[0]? = some d := by rw [hd]; rfl
            rw [e0]
            dsimp only
            refine wpAny_pure ⟨_, rfl, after _ _ true ⟨#[d]⟩ (by rw [hd]) (fun c' a' h => ?_) _ (by rw [hd]; rfl)⟩
            rcases lookup_cons_some h with ⟨rfl, rfl⟩ | h
            · exact ⟨d, hd, rfl⟩
            · exact h3 c' a' h
          · rw [if_neg hone]
            refine wpAny_bind (wpAny_pure ?_)
            dsimp only
            refine wpAny_bind (wpAny_rule ?_)
            exact slow _ known false h3
    · obtain ⟨pieces, total, fast, known, afterDrop⟩ := b
      obtain ⟨⟨k, rfl⟩, h1, h2, -, -⟩ := hi
      simp only at h1 h2
      rw [List.nil_append] at h1 h2
      dsimp only
      have htl : tooLong total = false := by unfold tooLong; rw [h2]; exact decide_eq_false (by omega)
      rw [htl]
      simp only [Bool.false_eq_true, if_false]
      rw [h1]
      unfold retStr
      refine wpAny_bind (wpAny_mkStr ?_ (by rw [show (⟨(l.flatMap tr).toArray⟩ : Str) = S (l.flatMap tr) from rfl, S_length]; exact hsz))
      exact wpAny_pure (hR _ _)
theorem translateS {prog : Program} {w : World} {A : Around} {E : Value → Shared → Prop} {s : Shared} {Q : Value → Shared → Prop} (tr : Nat → List Nat) {l : List Nat} {t : Tok} {D : Addr} {items : Array Value} (hD : s.heap.IsList D items) (hlt : ∀ c ∈ l, c < 2 ^ 62) (hit : ∀ c ∈ l, ∃ tk, items[c]? = some (.str (S (tr c)) tk)) (hsz : (l.flatMap tr).length ≤ sizeLine)
    (h : ∀ t' k, Q (.str (S (l.flatMap tr)) t') { s with toks := k }) : wpAny (model prog w) A (call (.builtin "str.translate") [.str (S l) t, .ref D]) Q E s :=
  call_meets F.slot_str_translate (typeIs_str _ _ _) F.entry_str_translate (F.args_str_translate_2 _ _) (meets_translate tr t hlt hit hsz) ⟨hD, h⟩
end Mine
end
section
open PySem PySem.W PySem.Calls PySem.NumText PyProof.Rows
set_option Elab.async false
namespace Mine
set_option maxRecDepth 100000
set_option maxHeartbeats 4000000
theorem hex_facts : ∀ h, h < 103 → isHex h = true → digit? h = some (hexv h) ∧ hexv h < 16 ∧ blank h = false ∧ h ≠ 45 ∧ h ≠ 43 ∧ h ≠ 95 ∧ h ≠ 0 ∧ h ≠ 120 ∧ h ≠ 88 := by decide +kernel
theorem hex_lt {h : Nat} (b : isHex h = true) : h < 103 := by
  unfold isHex at b
  simp only [Bool.or_eq_true, Bool.and_eq_true, decide_eq_true_eq] at b
  omega
theorem hex_read {h1 h2 : Nat} (b1 : isHex h1 = true) (b2 : isHex h2 = true) : (int_private% "readNumeral") 0 16 [h1, h2] = (int_private% "Numeral.value") ((16 * hexv h1 + hexv h2 : Nat) : Int) := by
  obtain ⟨d1, l1, k1, m1, p1, u1, -, -, -⟩ := hex_facts h1 (hex_lt b1) b1
  obtain ⟨d2, l2, k2, m2, p2, u2, -, x2, y2⟩ := hex_facts h2 (hex_lt b2) b2
  refine (readNumeral_eq 0 16 _).trans ?_
  have e1 : [h1, h2].dropWhile blank = [h1, h2] := by rw [List.dropWhile_cons_of_neg (by simp [k1])]
  have e2 : sign [h1, h2] = (false, [h1, h2]) := by
    unfold sign
    split
    · rename_i e; simp only [List.cons.injEq] at e; exact absurd e.1 m1
    · rename_i e; simp only [List.cons.injEq] at e; exact absurd e.1 p1
    · rfl
  have e3 : based 16 [h1, h2] = (16, false, [h1, h2]) := by
    unfold based prefix?
    split
    · rename_i p hp
      split at hp
      · rename_i c r e
        simp only [List.cons.injEq] at e
        rw [← e.2.1] at hp
        rw [if_neg (by simp [x2, y2])] at hp
        have hp16 : p ≠ 16 := by
          split at hp
          · cases hp; decide
          · split at hp
            · cases hp; decide
            · cases hp
        rw [if_neg (by simp [Ne.symm hp16])]
      · cases hp
    · rfl
  have e4 : ([h1, h2].reverse.dropWhile blank).reverse = [h1, h2] := by
    show ([h2, h1].dropWhile blank).reverse = _
    rw [List.dropWhile_cons_of_neg (by simp [k2])]; rfl
  have e5 : digits? 16 [h1, h2] = some #[hexv h1, hexv h2] := by
    unfold digits?
    simp [NumText.step, u1, u2, d1, d2, l1, l2]
  rw [e1, e2]
  dsimp only
  rw [e3]
  dsimp only
  rw [e4, e5]
  unfold judge
  simp
  omega
theorem wp_text16 {M : Model} {A : Around} {E : Value → Shared → Prop} {s : Shared} {Q : Value → Shared → Prop} {v : Value} {text : List Nat} {n : Int}
    (hs : (text.takeWhile (· != 0)).length ≤ 640) (hr : (int_private% "readNumeral") 0 16 (text.takeWhile (· != 0)) = (int_private% "Numeral.value") n)
    (ha : ((text.takeWhile (· != 0)).length == text.length) = true) (h : Q (.int n s.toks) { s with toks := s.toks + 1 }) :
    wpAny M A ((int_private% "intFromText") v text 16) Q E s := by
  obtain ⟨hp, g, d, tk, os⟩ := s
  repeat (any_goals (first
    | assumption
    | (with_reducible refine wpAny_ite_true (decide_eq_true hs) ?_)
    | (with_reducible refine wpAny_ite_true (decide_eq_true ha) ?_)
    | wp_step))
  all_goals (try rw [hr])
  all_goals (try dsimp only)
  repeat (any_goals (first
    | assumption
    | (with_reducible refine wpAny_ite_true (decide_eq_true hs) ?_)
    | (with_reducible refine wpAny_ite_true (decide_eq_true ha) ?_)
    | wp_step))
theorem wp_hex {M : Model} {A : Around} {E : Value → Shared → Prop} {s : Shared} {Q : Value → Shared → Prop} {v : Value} {text : List Nat} {n : Int} {h1 h2 : Nat}
    (ht : text = [h1, h2]) (hr : (int_private% "readNumeral") 0 16 [h1, h2] = (int_private% "Numeral.value") n)
    (htw : [h1, h2].takeWhile (· != 0) = [h1, h2]) (h : Q (.int n s.toks) { s with toks := s.toks + 1 }) :
    wpAny M A ((int_private% "intFromText") v text (Int.toNat 16)) Q E s := by
  subst ht
  exact wp_text16 (text := [h1, h2]) (by rw [htw]; simp) (by rw [htw]; exact hr) (by rw [htw]; rfl) h
structure Hid (p : Prop) : Prop where
  out : p
theorem typeCall_int_2 (a b : Value) : checkTypeCall "int" ⟨[a, b], []⟩ = pure () := by kernel_rfl
theorem newCall_int_2 (a b : Value) : checkBuiltinCall "int.__new__" ⟨[.type "int", a, b], []⟩ = pure () := by kernel_rfl
theorem args_object_init_3 (a b c : Value) : argsOk "object.__init__" ⟨[a, b, c], []⟩ := by
  unfold argsOk; rw [signature?_of (id := "object.__init__") (n := ['_', '_', 't', 'i', 'n', 'i', '_', '_']) (o := ['t', 'c', 'e', 'j', 'b', 'o']) (by kernel_rfl) F.owner_object]; kernel_rfl
theorem gives_hex {h1 h2 : Nat} (b1 : isHex h1 = true) (b2 : isHex h2 = true) (u v : Tok) : Gives (Builtin.«int.__new__» ⟨[.type "int", .str ⟨#[h1, h2]⟩ u, .int 16 v], []⟩) (.int ((16 * hexv h1 + hexv h2 : Nat) : Int)) :=
  .of_wp fun M A E s Q h => by
    obtain ⟨hp, g, d, tk, os⟩ := s
    have f1 := F.conv_sub_int
    have f2 := F.madeHere_int
    have f6 : typeOf (.str ⟨#[h1, h2]⟩ u) = pure (.type "str") := rfl
    have z1 := (hex_facts h1 (hex_lt b1) b1).2.2.2.2.2.2.1
    have z2 := (hex_facts h2 (hex_lt b2) b2).2.2.2.2.2.2.1
    have l1 := hex_lt b1
    have l2 := hex_lt b2
    have hall : (#[h1, h2] : Array Nat).all (· < 128) = true := by simp; omega
    have htw : ([h1, h2] : List Nat).takeWhile (· != 0) = [h1, h2] := by simp [z1, z2]
    have hr := hex_read b1 b2
    generalize hn : ((16 * hexv h1 + hexv h2 : Nat) : Int) = n at h hr
    have hk := Hid.mk (And.intro hr (And.intro hall htw))
    clear hr hall htw l1 l2 z1 z2 b1 b2 hn
    repeat (any_goals (first
      | assumption
      | ((with_reducible show wpAny _ _ ((int_private% "intFromText") _ _ _) _ _ _); refine wp_hex (h1 := h1) (h2 := h2) (n := n) (by exact if_pos hk.out.2.1) hk.out.1 hk.out.2.2 ?_)
      | wp_step))
    exact ⟨_, rfl, h⟩
theorem call_hex {prog : Program} {w : World} {A : Around} {E : Value → Shared → Prop} {s : Shared} {Q : Value → Shared → Prop} {h1 h2 : Nat} (b1 : isHex h1 = true) (b2 : isHex h2 = true) {u v : Tok}
    (h : Q (.int ((16 * hexv h1 + hexv h2 : Nat) : Int) s.toks) { s with toks := s.toks + 1 }) : wpAny (model prog w) A (call (.type "int") [.str ⟨#[h1, h2]⟩ u, .int 16 v]) Q E s :=
  callType_new F.called_int F.newNe_int (typeCall_int_2 _ _) (newCall_int_2 _ _) (fun obj => args_object_init_3 obj _ _) F.entry_int_new (gives_hex b1 b2 u v).meets (show (Made.int _).post _ s from ⟨rfl, h⟩)
end Mine
end
section
open PySem PySem.W PySem.Calls PyProof.Rows PyProof.V
set_option Elab.async false
namespace Mine
set_option maxRecDepth 100000
set_option maxHeartbeats 4000000
abbrev boundApp (D : Addr) : Obj := { cls := .type "builtin_function_or_method", data := .fields #[.builtin "list.append", .ref D] }
theorem slot_mget : Slot "method_descriptor" "__get__" "method_descriptor.__get__" :=
  .of (owner := "method_descriptor") (n := "__get__") (by rw [typeLookup_type, builtinLookup_eq_fast]; kernel_rfl) (by decide +kernel) (by decide +kernel) (by decide +kernel)
    (by first | exact .inl (by decide +kernel) | exact .inr (by decide +kernel)) (by rw [isSubtype_type]; kernel_rfl)
theorem entry_mget : entryFor table "method_descriptor.__get__" = some Builtin.«method_descriptor.__get__» := entryFor_of_tree (by kernel_rfl)
theorem args_mget (a b c : Value) : argsOk "method_descriptor.__get__" ⟨[a, b, c], []⟩ := by unfold argsOk; kernel_rfl
theorem ap_list : typeLookup (.type "list") "append" = pure (some (.builtin "list.append")) := by rw [typeLookup_type, builtinLookup_eq_fast]; kernel_rfl
theorem mset_none : typeLookup (.type "method_descriptor") "__set__" = pure none := by rw [typeLookup_type, builtinLookup_eq_fast]; kernel_rfl
theorem mdel_none : typeLookup (.type "method_descriptor") "__delete__" = pure none := by rw [typeLookup_type, builtinLookup_eq_fast]; kernel_rfl
theorem sub_ll : isSubtype (.type "list") (.type "list") = pure true := by rw [isSubtype_type]; kernel_rfl
theorem owner_app : (".".intercalate ("list.append".cutAt '.').dropLast) = "list" := by first | rfl | decide +kernel | kernel_rfl
theorem sub_app_owner : isSubtype (.type "list") (.type (".".intercalate ("list.append".cutAt '.').dropLast)) = pure true := by
  rw [owner_app, isSubtype_type]; kernel_rfl
section
variable {prog : Program} {w : World} {A : Around} {E : Value → Shared → Prop} {h : Heap} {g : Array GenState} {d : Drawn} {t : Nat} {os : OsState} {a : Addr} {o : Obj}
theorem app_get {R : Result → Shared → Prop} (hx : h.get? a = some o) (hc : o.cls = .type "list") (hq : R (.ok (.ret (.ref h.objs.size))) ⟨h.push (boundApp a), g, d, t, os⟩) :
    codeAny (model prog w) A (.call (.builtin "method_descriptor.__get__") ⟨[.builtin "list.append", .ref a, .type "list"], []⟩) R ⟨h, g, d, t, os⟩ := by
  have hT : (⟨h, g, d, t, os⟩ : Shared).TypeIs (.ref a) "list" := ⟨_, hx, hc⟩
  have hT5 : (⟨h, g, d, t, os⟩ : Shared).TypeIs (.builtin "list.append") "method_descriptor" := PySem.F.type_list_append
  have f8 := sub_app_owner
  refine codeAny_call_builtin slot_mget.plain entry_mget (slot_mget.check _ _ _ _ _ _ _ _ hT5 (args_mget _ _ _) ?_)
  repeat (any_goals (first | assumption | wp_step))
theorem app_entry {tk : Tok} {Q : PySem.Fin → Shared → Prop} {xs : Array Value} {k : Nat} (hx : h.get? a = some { cls := .type "list", data := .seq xs k }) (hq : Q (.done (.ret (.ref h.objs.size))) ⟨h.push (boundApp a), g, d, t, os⟩) :
    wpAny (model prog w) A (Builtin.«object.__getattribute__» ⟨[.ref a, .str "append" tk], []⟩) Q E ⟨h, g, d, t, os⟩ := by
  have hT : (⟨h, g, d, t, os⟩ : Shared).TypeIs (.ref a) "list" := ⟨_, hx, rfl⟩
  have hT5 : (⟨h, g, d, t, os⟩ : Shared).TypeIs (.builtin "list.append") "method_descriptor" := PySem.F.type_list_append
  have f4 := ap_list
  have f5 := PySem.F.type_list_append
  have f6 := slot_mget.lookup
  have f7 := mset_none
  have f8 := mdel_none
  repeat (any_goals (first | assumption | wp_step))
  refine app_get hx rfl ?_
  repeat (any_goals (first | assumption | wp_step))
theorem app_call {tk : Tok} {R : Result → Shared → Prop} {xs : Array Value} {k : Nat} (hx : h.get? a = some { cls := .type "list", data := .seq xs k }) (hq : R (.ok (.ret (.ref h.objs.size))) ⟨h.push (boundApp a), g, d, t, os⟩) :
    codeAny (model prog w) A (.call (.builtin "list.__getattribute__") ⟨[.ref a, .str "append" tk], []⟩) R ⟨h, g, d, t, os⟩ :=
  codeAny_call_builtin F.slot_list_getattribute.plain F.entry_list_ga (F.slot_list_getattribute.check _ _ _ _ _ _ _ _ (show (⟨h, g, d, t, os⟩ : Shared).TypeIs (.ref a) "list" from ⟨_, hx, rfl⟩) (F.args_list_getattribute_2 _ _) (app_entry hx hq))
theorem app_attr {Q : Value → Shared → Prop} {xs : Array Value} {k : Nat} (hx : h.get? a = some { cls := .type "list", data := .seq xs k }) (hq : Q (.ref h.objs.size) ⟨h.push (boundApp a), g, d, t + 1, os⟩) : wpAny (model prog w) A (getAttr (.ref a) (Str.ofString "append") true) Q E ⟨h, g, d, t, os⟩ := by
  have hT : (⟨h, g, d, t + 1, os⟩ : Shared).TypeIs (.ref a) "list" := ⟨_, hx, rfl⟩
  have f2 := F.slot_list_getattribute.lookup
  have f3 := F.slot_list_getattribute.bind (.ref a)
  unfold getAttr getAttrBy
  repeat (any_goals (first | assumption | wp_step))
  refine app_call hx ?_
  repeat (any_goals (first | assumption | wp_step))
end
def BStands (u D : Addr) (h : Heap) : Prop := h.get? u = some (boundApp D)
theorem quiet_app {as : Args} : (Code.builtin "list.append" as).quiet = true := Code.quiet_builtin _ (by decide +kernel)
abbrev sigApp : Manifest.Signature := ⟨.oneArg, "list.append", "append", .self, [⟨"object", .posOnly, true⟩]⟩
theorem sig_app : Manifest.signature? "list.append" = some sigApp := by
  rw [signature?_of (id := "list.append") (n := ['d', 'n', 'e', 'p', 'p', 'a']) (o := ['t', 's', 'i', 'l']) (by kernel_rfl) F.owner_list]; kernel_rfl
theorem kind_app : builtinKind "list.append" = some .method := by decide +kernel
theorem va_app : Manifest.varargsMethods.contains "list.append" = false := by decide +kernel
theorem last_app : Bind.lastOf "list.append" = "append" := by first | rfl | decide +kernel | kernel_rfl
theorem last_list : Bind.lastOf "list" = "list" := by first | rfl | decide +kernel | kernel_rfl
theorem sub_list_module : isSubtype (.type "list") (.type "module") = pure false := by rw [isSubtype_type]; kernel_rfl
theorem sub_list_type : isSubtype (.type "list") (.type "type") = pure false := by rw [isSubtype_type]; kernel_rfl
theorem args_app (D : Addr) (x : Value) : Bind.checkArgs "list.append" sigApp ⟨[.ref D, x], []⟩ = pure () := by kernel_rfl
theorem wp_check_app {M : Model} {A : Around} {E : Value → Shared → Prop} {s : Shared} {Q : Unit → Shared → Prop} {D : Addr} {x : Value} {its : Array Value} {n : Nat} (hx : s.heap.get? D = some (listOf its n)) (h : Q () s) : wpAny M A (checkBoundCall "list.append" ⟨[.ref D, x], []⟩) Q E s := by
  have hT : s.TypeIs (.ref D) "list" := ⟨_, hx, rfl⟩
  unfold checkBoundCall
  rw [sig_app, kind_app]
  dsimp only
  rw [if_neg (by decide), last_app]
  refine wpAny_bind (wpAny_isInstance hT sub_list_module ?_)
  rw [va_app]
  simp only [Bool.or_false, Bool.false_eq_true, if_false]
  unfold isType
  dsimp only
  refine wpAny_bind (wpAny_bind ?_)
  unfold loadHead
  first
    | refine wpAny_loadPart hx ?_
    | refine wpAny_load hx ?_
  refine wpAny_pure ?_
  simp only [Bool.false_eq_true, if_false]
  refine wpAny_bind (wpAny_typeOf hT ?_)
  dsimp only
  rw [last_list]
  exact wpAny_of_eq (args_app D x) h
section
variable {prog : Program} {w : World} {M : Model} {A : Around} {E : Value → Shared → Prop} {s : Shared} {h₀ : Heap} {L : Addr} {m : PySem.Str → Option Value} {news news' : List (Addr × Obj)}
theorem app_attrN {D : Addr} {its : Array Value} {n : Nat} {prog : Program} {w : World} {Q : Value → Shared → Prop} (F : Fr h₀ L s.heap m) (N : News h₀ L s.heap news) (hm : (D, listOf its n) ∈ news)
    (h : ∀ u h', Fr h₀ L h' m → News h₀ L h' ((u, boundApp D) :: news) → (∀ p ∈ news, p.1 < u) → Q (.ref u) { s with heap := h', toks := s.toks + 1 }) : wpAny (model prog w) A (getAttr (.ref D) (Str.ofString "append") true) Q E s := by
  obtain ⟨hp, g, d, tk, os⟩ := s
  exact app_attr (N _ hm).1 (h _ _ (F.push _) (N.push F _) fun p hp => Heap.lt_size (N p hp).1)
theorem callWith_fieldsA {pos : Pos} {u D : Addr} {first : List Value} {args : List (Bool × Sem Value)} {Q : Value → Shared → Prop} (hplain : args.any (·.1) = false)
    (h : wpAny M A (evalArgs (.ref u) true args []) (fun x s₁ => BStands u D s₁.heap ∧ wpAny M A (call (.ref u) (first ++ x.pos) x.kw) Q E s₁) E s) : wpAny M A (callWith pos (.ref u) first args []) Q E s := by
  unfold callWith
  refine wpAny_bind (wpAny_holding (wpAny_mono h (fun x s₁ h₁ => wpAny_bind (wpAny_standAt ?_)) fun _ _ x => x))
  obtain ⟨ho, hcall⟩ := h₁
  simp only [hplain, List.any_nil, Bool.or_false]
  refine wpAny_bind (m := keeperOf (.ref u)) ?_
  unfold keeperOf
  refine wpAny_bind (wpAny_load ho ?_)
  simp only [show (Value.type "builtin_function_or_method" != Value.type "method") = true by decide, show (Value.type "builtin_function_or_method" == Value.type "builtin_function_or_method" || Value.type "builtin_function_or_method" == Value.type "method-wrapper") = true by decide, if_true]
  refine wpAny_pure ?_
  exact wpAny_bind (wpAny_mono hcall (fun r s₂ hr => wpAny_bind (wpAny_holding (wpAny_point (wpAny_pure hr)))) fun _ _ x => x)
theorem callWith_app {pos : Pos} {u D : Addr} {first : List Value} {env : Env} {e : Expr} {rest : List Expr} {Q : Value → Shared → Prop} (_N : News h₀ L s.heap news) (_hm : (u, boundApp D) ∈ news)
    (h : wpAny M A (spliced (backTo pos (starEach (e :: rest) env))) (fun vs s₁ => BStands u D s₁.heap ∧ wpAny M A (call (.ref u) (first ++ vs)) Q E s₁) E s)
    (he : starEach (e :: rest) env = (false, eval e env) :: starEach rest env := by rfl) (hplain : (backTo pos (starEach rest env)).any (·.1) = false := by rfl) :
    wpAny M A (callWith pos (.ref u) first (backTo pos (starEach (e :: rest) env)) []) Q E s := by
  rw [he] at h ⊢
  have hp : (((false, eval e env) :: backTo pos (starEach rest env)).any (·.1)) = false := by
    show (false || (backTo pos (starEach rest env)).any (·.1)) = false
    rw [hplain]; rfl
  refine callWith_fieldsA (D := D) hp ?_
  exact evalArgs_plain h
theorem append_bound {D u : Addr} {its : Array Value} {n : Nat} {x : Value} {Q : Value → Shared → Prop} (F : Fr h₀ L s.heap m) (N : News h₀ L s.heap news) (hu : (u, boundApp D) ∈ news) (U : Upd D (listOf its n) (listOf (its.push x) (n + 1)) news news')
    (h : ∀ h', Fr h₀ L h' m → News h₀ L h' news' → Q .none { s with heap := h' }) (hsz : its.size ≤ 16777216) : wpAny (model prog w) A (call (.ref u) [x]) Q E s := by
  obtain ⟨pre, post, rfl, rfl, a, b⟩ := U.split
  have z := N (D, listOf its n) (List.mem_append.mpr (.inr (.head _)))
  refine wpAny_call (codeAny_of_tree ?_)
  show wpAny _ A.in1 (callAny (.ref u) ⟨[x], []⟩) _ _ s
  simp only [callAny]
  refine wpAny_bind (wpAny_load (N _ hu).1 ?_)
  simp only [show (Value.type "builtin_function_or_method" == Value.type "method" || Value.type "builtin_function_or_method" == Value.type "builtin_function_or_method" || Value.type "builtin_function_or_method" == Value.type "method-wrapper") = true by decide, if_true]
  refine KFB.if_so (by decide) ?_
  refine wpAny_bind (wp_check_app z.1 ?_)
  refine wpAny_bind (wpAny_pure (wpAny_pure ?_))
  refine ⟨quiet_app, codeAny_builtin entry_list_append ?_⟩
  show wpAny _ _ (updateSeq D (·.push x) >>= fun _ => ret .none) _ _ s
  refine wpAny_bind ?_
  refine wpAny_updateSeq z.1 rfl (wpAny_pure ?_)
  have hs : Heap.SameBut D s.heap (s.heap.update D (Obj.mapSeq (·.push x))) := Heap.SameBut.update ..
  have ho' : (s.heap.update D (Obj.mapSeq (·.push x))).get? D = some (listOf (its.push x) (n + 1)) := by
    rw [Heap.get?_update_self _ z.1 (by rw [mapSeq_push]; rfl), mapSeq_push]
  exact h _ (F.change hs z.2.1 z.2.2) (news_set N a b hs ho')
end
end Mine
end
section
open PySem PySem.W PyProof.Rows
set_option Elab.async false
namespace Mine
theorem fresh_MC1 : True := by
  w_top off
  trivial
set_option maxRecDepth 100000
set_option maxHeartbeats 4000000
theorem quote_c (w : World) (p : Program) (loose : List Str) (mean : ExcName → Option Value) (mg mb : Str → Option Value) (news : List (Addr × Obj)) (c : Nat) (hc : isBl c = true) (t : Tok) :
    CbClaim PySem.Challenge.rw_dm5004_01.row.prog w (hd.heap_39 w.params) p loose mean mg mb 44 news [] True [.str ⟨#[c]⟩ t] (fun t => .str ⟨(esc c).toArray⟩ t) := by
  k_fill
  have hc' : c = 32 ∨ c = 9 := by
    unfold isBl at hc
    simpa using hc
  dsimp only [CbClaim, CbLists, CbRet]
  intros
  rename_i hret
  rcases hc' with rfl | rfl
  all_goals (
    refine wpAny_call ?_
    k_dflt cell_enter
    k_steps
    exact hret _ _ _ (by assumption) (by assumption))
end Mine
end
section
open PySem PySem.W PyProof.Rows
set_option Elab.async false
namespace Mine
theorem fresh_MUnq : True := by
  w_top off
  trivial
set_option maxRecDepth 100000
set_option maxHeartbeats 4000000
theorem unquote_s (w : World) (p : Program) (loose : List Str) (mean : ExcName → Option Value) (mg mb : Str → Option Value) (news : List (Addr × Obj)) (h1 h2 : Nat) (b1 : isHex h1 = true) (b2 : isHex h2 = true) (t : Tok) :
    CbClaim PySem.Challenge.rw_dm5004_01.row.prog w (hd.heap_39 w.params) p loose mean mg mb 37 news [] True [.str (S [61, h1, h2]) t] (fun t => .str (S [16 * hexv h1 + hexv h2]) t) := by
  k_fill
  dsimp only [CbClaim, CbLists, CbRet]
  intros
  rename_i hret
  refine wpAny_call ?_
  k_dflt cell_enter
  have l1 : hexv h1 < 16 := (hex_facts h1 (hex_lt b1) b1).2.1
  have l2 : hexv h2 < 16 := (hex_facts h2 (hex_lt b2) b2).2.1
  k_steps
  have e : Txt.slice (S [61, h1, h2]) (some 1) (some 3) = S [h1, h2] := slice_ss (l := [61, h1, h2]) (i := 1) (j := 3) (by simp) (by simp)
  rw [e]
  refine call_hex b1 b2 ?_
  have hk : 16 * hexv h1 + hexv h2 < 256 := by omega
  generalize 16 * hexv h1 + hexv h2 = k at hk hret ⊢
  k_steps
  exact hret _ _ _ (by assumption) (by assumption)
end Mine
end
section
open PySem PySem.W PySem.Spec PySem.Calls PyProof.Rows PyProof.V
set_option Elab.async false
namespace Mine
theorem fresh_MText : True := by
  w_top off
  trivial
set_option maxRecDepth 100000
set_option maxHeartbeats 4000000
local macro_rules | `(tactic| walk_at "MINE enter") => `(tactic| k_dflt (refine' code_pure ?k1 ?k2 ?k3 ?k5 ?kA ?kF ?kK ?k6 ?k7 ?k8 ?k9 ?kB ?_ ?c2 ?c3 ?c4 ?c5; (case kA => exact rfl); (case kF => exact rfl); (case kK => assumption); (case k1 => k_asm); (case k2 => k_asm); (case k3 => k_asm); (case k5 => k_asm); (case k6 => k_is); (case k7 => k_is); (case k8 => ktr_room); (case k9 => exact BindsTo.of_eq rfl); (case c5 => decide); (case kB => exact locs rfl); (case c2 => exact rfl); (case c3 => exact rfl); (case c4 => exact rfl); k_whole))
local macro_rules | `(tactic| walk_at "exec For Name Name cons nil") => `(tactic| (k_here; (try k_fold); (rename Fr _ _ _ _ => lF'); (with_unfolding_all refine' For_invVF lF' ?k1 ?k2 ?_; (case k1 => exact rfl); (case k2 => exact rfl); k_whole)))
local macro_rules | `(tactic| walk_at "pyIter ref") => `(tactic| k_extra "pyIter ref")

local macro_rules | `(tactic| walk_at "MINE str") => `(tactic| first | with_reducible exact lit_nl | with_reducible exact lit_e | with_reducible exact lit_eq | with_reducible exact lit_bl | with_reducible exact lit_dd | with_reducible exact lit_eu | with_reducible exact lit_hex | k_extra "lit" | with_reducible exact rfl)
local macro_rules | `(tactic| walk_at "MINE size") => `(tactic| first | omega | (simp only [List.length_append, List.length_cons, List.length_nil]; omega) | k_extra "size")
local macro_rules | `(tactic| walk_at "inplaceOp Add str str") => `(tactic| (refine' iaddS ?hx ?hy ?hs ?_; (case hx => walk_at "MINE str"); (case hy => walk_at "MINE str"); (case hs => walk_at "MINE size"); intro _ _))
def piecesL : List (List Nat) := [[45,45,61,95,10], [45,45,61,95,97,10], [45,45,61,95,61,95,45,45,10], [45,45,120,61,95,55,10], [45,45,107,10], [61,95], [61], [32], [10], [9], [95], [61,51,68], [45], [97], [233], [45,45,61,95,45,45]]
def pieceL (x : Int) : List Nat := if x % 32 < 16 then piecesL.getD (x % 32).toNat [] else if x / 32 % 256 = 13 then [10] else [(x / 32 % 256).toNat]
def textL (ns : List Int) : List Nat := ns.flatMap pieceL

theorem len_pieces (k : Nat) : (piecesL.getD k []).length ≤ 9 := by
  have : ∀ p ∈ piecesL, p.length ≤ 9 := by decide
  rw [List.getD_eq_getElem?_getD]
  cases h : piecesL[k]? with
  | none => simp
  | some p => exact this p (List.mem_of_getElem? h)
theorem len_piece (x : Int) : (pieceL x).length ≤ 9 := by
  unfold pieceL
  split
  · exact len_pieces _
  · split <;> simp
theorem len_text (ns : List Int) : (textL ns).length ≤ 9 * ns.length := by
  induction ns with
  | nil => simp [textL]
  | cons n r ih =>
    have := len_piece n
    show (pieceL n ++ textL r).length ≤ _
    rw [List.length_append, List.length_cons]; omega
theorem pieces_S (k : Nat) : ([Str.ofString "--=_\n", Str.ofString "--=_a\n", Str.ofString "--=_=_--\n", Str.ofString "--x=_7\n", Str.ofString "--k\n", Str.ofString "=_", Str.ofString "=", Str.ofString " ", Str.ofString "\n", Str.ofString "\t", Str.ofString "_", Str.ofString "=3D", Str.ofString "-", Str.ofString "a", Str.ofString "é", Str.ofString "--=_--"] : List Str).getD k Str.empty = S (piecesL.getD k []) := by
  have e : ([Str.ofString "--=_\n", Str.ofString "--=_a\n", Str.ofString "--=_=_--\n", Str.ofString "--x=_7\n", Str.ofString "--k\n", Str.ofString "=_", Str.ofString "=", Str.ofString " ", Str.ofString "\n", Str.ofString "\t", Str.ofString "_", Str.ofString "=3D", Str.ofString "-", Str.ofString "a", Str.ofString "é", Str.ofString "--=_--"] : List Str) = piecesL.map S := by decide +kernel
  rw [e, List.getD_eq_getElem?_getD, List.getD_eq_getElem?_getD, List.getElem?_map]
  cases piecesL[k]? with
  | none => rfl
  | some p => rfl

theorem lawtext_c (w : World) (p : Program) (loose : List Str) (mean : ExcName → Option Value) (mg mb : Str → Option Value) (l : Addr) (vs : List Value) (ns : List Int) (hn : ns.length ≤ 64) :
    PClaim PySem.Challenge.rw_dm5004_01.row.prog w (hd.heap_39 w.params) p loose mean mg mb 2 74 (fun h => h.IsList l vs.toArray ∧ IntsAre vs ns) [.ref l] (backS (textL ns)) := by
  k_fill
  intro dp un gd cn cs a ccd cl outer A₀ base h₀ L m s Q E B F X T hk hneed hd hu hret
  refine wpAny_call ?_
  walk_at "MINE enter"
  intro g L' h₁ hg F' N' B' X' T'
  subst hg
  obtain ⟨hl, hi⟩ := hneed
  (try dsimp only)
  k_fold
  k_with_none
  k_with "lit" => with_reducible exact pieces_S _
  k_with "size" => (
    have := len_pieces ((n.fmod 32).toNat)
    omega)
  obtain ⟨lo, hlo, hcl, hdat⟩ := hl
  k_steps
  rename Fr _ _ _ _ => lF'
  rename News _ _ _ _ => lN'
  refine for_tok (σ := List Nat) (l := l) (vs := vs) (lo := lo) (fun _ => []) (fun c => [(Str.ofString "text", .str (S c))]) [] (fun i c => c = textL (ns.take i)) [] rfl hcl hdat (.inl hlo) lF' lN' ⟨⟨_, by rw [← lit_e]; rfl⟩, trivial⟩ rfl ?_ ?_
  · intro i v c τ u h tk I o hv hP hne F' N'
    clear lF' lN'
    have hi' : i < ns.length := by
      have := (List.getElem?_eq_some_iff.mp hv).1
      rw [hi.length] at this
      exact this
    obtain ⟨tn, hx⟩ := hi.get i ns[i] (by simp [hi'])
    rw [hx] at hv
    cases hv
    dsimp only [kstB, psT] at F'
    have hn' : ns[i]? = some ns[i] := by simp [hi']
    have hlen : c.length ≤ 600 := by
      have := len_text (ns.take i)
      rw [List.length_take] at this
      rw [hP]; omega
    generalize ns[i] = n at F' hx hn'
    generalize τ 0 = tt at F'
    k_steps
    all_goals (
      dsimp only [TokPost]
      rename Fr _ _ _ _ => lF
      rename News _ _ _ _ => lN
      refine tok_end _ lF lN (.head _) (fun q hq => nomatch hq) (fun q hq => nomatch hq) ⟨⟨_, rfl⟩, trivial⟩ (fun z h1 h2 _ => by
        have h2 := h2.1
        simp [h1, h2]) ?_
      rw [List.take_add_one, hn']
      show _ = textL (ns.take i ++ [n])
      rw [textL, List.flatMap_append, ← textL, ← hP]
      show c ++ _ = c ++ (pieceL n ++ [])
      rw [List.append_nil]
      congr 1
      unfold pieceL
      have e1 : n.fmod 32 = n % 32 := Int.fmod_eq_emod_of_nonneg _ (by decide)
      have e2 : n.fdiv 32 = n / 32 := Int.fdiv_eq_ediv_of_nonneg _ (by decide)
      have e3 : (n / 32).fmod 256 = n / 32 % 256 := Int.fmod_eq_emod_of_nonneg _ (by decide)
      simp only [e1, e2, e3] at *
      first
        | rw [if_pos (by assumption)]
        | rw [if_neg (by assumption), if_pos (by assumption)]
        | rw [if_neg (by assumption), if_neg (by assumption)])
  · intro c τ u h tk hP F' N'
    clear lF' lN'
    dsimp only [kstB, psT] at F'
    k_steps
    dsimp only
    refine hret _ _ _ (fun b o e => F'.keep b o e) ⟨τ 0, ?_⟩
    rw [hP, hi.length, List.take_length]
end Mine
end
section
open PySem PySem.W PySem.Spec PySem.Calls PyProof.Rows PyProof.V
set_option Elab.async false
namespace Mine
set_option maxRecDepth 100000
set_option maxHeartbeats 4000000
theorem rows_step {n : Nat} {r : List Nat} {st : Int} (h0 : 0 ≤ st) (h1 : st ≤ (r.length : Int) - 1 - n) (hn : 4 ≤ n) :
    rowsOf n (r.drop st.toNat) = if [r.getD (st + ((n : Int) - 1) - 2).toNat 0] = [61] then ((r.drop st.toNat).take ((st + ((n : Int) - 1) - 1).toNat - st.toNat)) :: rowsOf n (r.drop (st + ((n : Int) - 1) - 2).toNat)
      else if [r.getD (st + ((n : Int) - 1) - 1).toNat 0] = [61] then ((r.drop st.toNat).take ((st + ((n : Int) - 1)).toNat - st.toNat)) :: rowsOf n (r.drop (st + ((n : Int) - 1) - 1).toNat)
      else ((r.drop st.toNat).take ((st + ((n : Int) - 1)).toNat - st.toNat) ++ [61]) :: rowsOf n (r.drop (st + ((n : Int) - 1)).toNat) := by
  obtain ⟨k, rfl⟩ := Int.eq_ofNat_of_zero_le h0
  have e0 : ((k : Int)).toNat = k := by omega
  have e1 : ((k : Int) + ((n : Int) - 1) - 2).toNat = k + (n - 3) := by omega
  have e2 : ((k : Int) + ((n : Int) - 1) - 1).toNat = k + (n - 2) := by omega
  have e3 : ((k : Int) + ((n : Int) - 1)).toNat = k + (n - 1) := by omega
  rw [e0, e1, e2, e3]
  rw [rowsOf, dif_pos ⟨by rw [List.length_drop]; omega, hn⟩]
  have c : ∀ j, k + j < r.length → ((r.drop k)[j]? = some 61 ↔ [r.getD (k + j) 0] = [61]) := by
    intro j hj
    rw [List.getElem?_drop, List.getD_eq_getElem?_getD, List.getElem?_eq_getElem hj]
    simp
  simp only [c (n - 3) (by omega), c (n - 2) (by omega), List.drop_drop]
  rw [show k + (n - 2) - k = n - 2 by omega, show k + (n - 1) - k = n - 1 by omega]
theorem fin_all {n : Nat} {r : List Nat} {st : Int} (h0 : 0 ≤ st) (h1 : ¬ st ≤ (r.length : Int) - 1 - n) : rowsOf n (r.drop st.toNat) = [finRow n (r.drop st.toNat)] := by
  rw [rowsOf, dif_neg (by rw [List.length_drop]; omega)]
theorem fin_nil {n k : Nat} {r : List Nat} (h : r = []) : finRow n (r.drop k) = r.drop k := by
  subst h; rw [List.drop_nil]; rfl
theorem last_drop {r : List Nat} {k : Nat} (h : k < r.length) : (r.drop k).getLast? = some (r.getLastD 0) := by
  rw [List.getLast?_drop, if_neg (by omega)]
  exact getLastD_of (by intro e; subst e; simp at h)
theorem fin_plain {n k : Nat} {r : List Nat} (hb : ¬ r.getLastD 0 ∈ [32, 9]) : finRow n (r.drop k) = r.drop k := by
  by_cases h : k < r.length
  · unfold finRow
    rw [last_drop h]
    have : isBl (r.getLastD 0) = false := by
      cases q : isBl (r.getLastD 0) with
      | false => rfl
      | true => exact absurd (by simpa [isBl] using q) hb
    simp only [this, Bool.false_eq_true, if_false]
  · rw [List.drop_eq_nil_of_le (by omega)]; rfl
theorem dropLast_last {r : List Nat} {k : Nat} (h : k < r.length) : (r.drop k).dropLast ++ [r.getLastD 0] = r.drop k := by
  obtain ⟨x, e⟩ := List.getLast?_eq_some_iff.mp (last_drop h)
  rw [e, List.dropLast_concat]
section
variable {n : Nat} {r : List Nat} {st : Int} (h0 : 0 ≤ st) (hs : st = 0 ∨ st + 2 ≤ (r.length : Int)) (hne : ¬ r = []) (hb : r.getLastD 0 ∈ [32, 9])
include h0 hs hne hb
theorem fin_esc (hr : 3 ≤ st - ((r.length : Int) - 1 - n)) : finRow n (r.drop st.toNat) = (r.drop st.toNat).dropLast ++ esc (r.getLastD 0) := by
  have hl := List.length_pos_iff.mpr hne
  unfold finRow
  rw [last_drop (by omega)]
  have : isBl (r.getLastD 0) = true := by simpa [isBl] using hb
  simp only [this, if_true]
  rw [if_pos (by rw [List.length_drop]; omega)]
theorem fin_two (h2 : st - ((r.length : Int) - 1 - n) = 2) : finRow n (r.drop st.toNat) = (r.drop st.toNat).dropLast ++ ([r.getLastD 0] ++ [61, 10]) := by
  have hl := List.length_pos_iff.mpr hne
  unfold finRow
  rw [last_drop (by omega)]
  have : isBl (r.getLastD 0) = true := by simpa [isBl] using hb
  simp only [this, if_true]
  rw [if_neg (by rw [List.length_drop]; omega), if_pos (by rw [List.length_drop]; omega), ← List.append_assoc, dropLast_last (by omega)]
theorem fin_else (h3 : ¬ 3 ≤ st - ((r.length : Int) - 1 - n)) (h2 : st - ((r.length : Int) - 1 - n) ≠ 2) (h1 : ¬ st ≤ (r.length : Int) - 1 - n) : finRow n (r.drop st.toNat) = (r.drop st.toNat).dropLast ++ ([61, 10] ++ esc (r.getLastD 0)) := by
  have hl := List.length_pos_iff.mpr hne
  unfold finRow
  rw [last_drop (by omega)]
  have : isBl (r.getLastD 0) = true := by simpa [isBl] using hb
  simp only [this, if_true]
  rw [if_neg (by rw [List.length_drop]; omega), if_neg (by rw [List.length_drop]; omega), List.append_assoc]
end
theorem fin_done {n i : Nat} {lines dn : List (List Nat)} {r row : List Nat} {st : Int} {ws : List Value} {t : Tok} (h0 : 0 ≤ st) (h1 : ¬ st ≤ (r.length : Int) - 1 - n) (hr : lines[i]? = some r)
    (q1 : StrL ws ((lines.take i).flatMap (rowsOf n) ++ dn)) (q2 : dn ++ rowsOf n (r.drop st.toNat) = rowsOf n r) (e : finRow n (r.drop st.toNat) = row) :
    StrL (ws ++ [.str (S row) t]) ((lines.take (i + 1)).flatMap (rowsOf n)) := by
  rw [fin_all h0 h1, e] at q2
  rw [List.take_add_one, hr, List.flatMap_append]
  show StrL _ (_ ++ (rowsOf n r ++ []))
  rw [List.append_nil, ← q2, ← List.append_assoc]
  exact q1.snoc _ _
theorem off5 {a b c d e z : Str} (h : [a, b, c, d, e].contains z = false) : z ≠ a ∧ z ≠ b ∧ z ≠ c ∧ z ≠ d ∧ z ≠ e := by
  simpa using h
theorem off1 {a z : Str} (h : [a].contains z = false) : z ≠ a := by
  simpa using h
end Mine
end
section
open PySem PySem.W PySem.Spec PySem.Calls PyProof.Rows PyProof.V
set_option Elab.async false
namespace Mine
theorem fresh_MEnc : True := by
  w_top off
  trivial
set_option maxRecDepth 100000
set_option maxHeartbeats 4000000
theorem len_esc (c : Nat) : (esc c).length = 3 := rfl
local macro_rules | `(tactic| walk_at "MINE enter") => `(tactic| k_dflt (refine' code_pure ?k1 ?k2 ?k3 ?k5 ?kA ?kF ?kK ?k6 ?k7 ?k8 ?k9 ?kB ?_ ?c2 ?c3 ?c4 ?c5; (case kA => exact rfl); (case kF => exact rfl); (case kK => assumption); (case k1 => k_asm); (case k2 => k_asm); (case k3 => k_asm); (case k5 => k_asm); (case k6 => k_is); (case k7 => k_is); (case k8 => ktr_room); (case k9 => first | exact BindsTo.of_eq rfl | exact binds_K (by k_in) rfl (by k_is) rfl rfl rfl); (case c5 => decide); (case kB => exact locs rfl); (case c2 => exact rfl); (case c3 => exact rfl); (case c4 => exact rfl); k_whole))
local macro_rules | `(tactic| walk_at "exec For Name Call cons nil") => `(tactic| (k_here; (try k_fold); (rename Fr _ _ _ _ => lF'); (with_unfolding_all refine' For_halt lF' ?k1 ?k2 ?_; (case k1 => exact rfl); (case k2 => exact rfl); k_whole)))
local macro_rules | `(tactic| walk_at "exec While Compare cons nil") => `(tactic| (k_here; (try k_fold); refine Halt.out ?_))
local macro_rules | `(tactic| walk_at "MINE str") => `(tactic| first | with_reducible exact lit_nl | with_reducible exact lit_e | with_reducible exact lit_eq | with_reducible exact lit_bl | with_reducible exact lit_dd | with_reducible exact lit_eu | with_reducible exact lit_hex | with_reducible exact lit_crlf | k_extra "lit" | with_reducible exact rfl)
local macro_rules | `(tactic| walk_at "MINE size") => `(tactic| first | omega | (simp only [List.length_append, List.length_cons, List.length_nil, List.length_take, List.length_drop, List.length_dropLast, len_esc]; omega) | k_extra "size")
local macro_rules | `(tactic| walk_at "inplaceOp Add str str") => `(tactic| (refine' iaddS ?hx ?hy ?hs ?_; (case hx => walk_at "MINE str"); (case hy => walk_at "MINE str"); (case hs => walk_at "MINE size"); intro _ _))
local macro_rules | `(tactic| walk_at "binaryOp Add str str") => `(tactic| (refine' addS ?hx ?hy ?hs ?_; (case hx => walk_at "MINE str"); (case hy => walk_at "MINE str"); (case hs => walk_at "MINE size"); intro _ _))
local macro_rules | `(tactic| walk_at "truthy str") => `(tactic| (refine' truthyS ?hx ?hs ?_; (case hx => walk_at "MINE str"); (case hs => walk_at "MINE size")))

local macro_rules | `(tactic| walk_at "call ref") => `(tactic| (k_here; walk_at "MINE quote"))
theorem bstands {u D : Addr} {h₀ h : Heap} {L : Addr} {news : List (Addr × Obj)} (N : News h₀ L h news) (hm : (u, boundApp D) ∈ news) : BStands u D h := (N _ hm).1
theorem quote_s (w : World) (p : Program) (loose : List Str) (mean : ExcName → Option Value) (mg mb : Str → Option Value) (news : List (Addr × Obj)) (c : Nat) (hc : isBl c = true) (t : Tok) :
    CbClaim PySem.Challenge.rw_dm5004_01.row.prog w (hd.heap_39 w.params) p loose mean mg mb 44 news [] True [.str (S [c]) t] (fun t => .str (S (esc c)) t) := quote_c w p loose mean mg mb news c hc t
local macro_rules | `(tactic| walk_at "getAttr ref") => `(tactic| (k_here; (with_reducible show wpAny _ _ (getAttr (Value.ref _) (PySem.Str.ofString "append") true) _ _ _); (refine' app_attrN ?k1 ?k2 ?k3 ?_; (case k1 => k_asm); (case k2 => k_asm); (case k3 => k_mem)); intro u' h' F' N' l1; (try k_lt l1); (try k_sweep)))
local macro_rules | `(tactic| walk_at "callWith ref") => `(tactic| (k_here; (with_reducible show wpAny _ _ (callWith _ (Value.ref _) _ (backTo _ (starEach (_ :: _) _)) []) _ _ _); k_dflt (refine' callWith_app ?k1 ?k2 ?_; (case k1 => k_asm); (case k2 => k_mem); k_whole)))
local macro_rules | `(tactic| walk_at "And") => `(tactic| ((with_reducible show BStands _ _ _ ∧ _); (refine' ⟨bstands ?k1 ?k2, ?_⟩; (case k1 => k_asm); (case k2 => first | k_mem | exact .head _ | exact .tail _ (.head _) | exact .tail _ (.tail _ (.head _)) | exact .tail _ (.tail _ (.tail _ (.head _))) | exact .tail _ (.tail _ (.tail _ (.tail _ (.head _)))))); (try dsimp only [List.nil_append, List.cons_append])))
local macro_rules | `(tactic| walk_at "MINE quote") => `(tactic| ((with_reducible show wpAny _ _ (call (Value.ref 44) [_]) _ _ _); (have hCb := quote_s; dsimp only [CbClaim, CbLists, CbRet] at hCb; refine' hCb _ _ _ _ _ _ _ _ ?cbl _ _ _ _ _ _ _ _ _ _ _ _ _ _ _ _ _ _ ?k1 ?k2 ?k3 ?k4 ?k5 ?kK trivial ?kd ?ku ?kR; clear hCb; (case cbl => k_extra "bl"); (case k1 => k_asm); (case k2 => k_asm); (case k3 => k_asm); (case k4 => k_asm); (case k5 => k_asm); (case kK => exact rfl); (case kd => ktr_room); (case ku => ktr_units); intro t9 h9 tk9 F9 N9; (try dsimp only); (try k_fold))))
local macro_rules | `(tactic| walk_at "call ref") => `(tactic| (k_here; (with_reducible show wpAny _ _ (call (Value.ref _) [_]) _ _ _); k_dflt (refine' append_bound ?k1 ?k2 ?k3 ?k4 ?_ ?z; (case k1 => k_asm); (case k2 => k_asm); (case k3 => k_mem); (case k4 => k_upd); (case z => walk_at "MINE size"); k_whole); intro h' F' N'; (try k_sweep)))
local macro_rules | `(tactic| walk_at "call builtin:str.splitlines") => `(tactic| (k_here; (refine' splitlinesS ?k1 ?k2 ?hx ?hb ?hs ?_; (case k1 => k_asm); (case k2 => k_asm); (case hx => walk_at "MINE str"); (case hb => k_extra "brk"); (case hs => walk_at "MINE size")); intro D' vs' h' k' hv' F' N' l1; (try k_lt l1); (try k_sweep)))
theorem gm_translate {M : Model} {A : Around} {E : Value → Shared → Prop} {s : Shared} {x : Str} {t : Tok} {pl : Sem Bool} {Q : Value × List Value → Shared → Prop} (h : Q (.builtin "str.translate", [.str x t]) s) : wpAny M A (getMethod (.str x t) "translate" pl) Q E s := by
  with_reducible exact GM.of (.str x t) (typeIs_str _ _ _) F.slot_str_translate F.type_str_translate GM.noRef h
def strAt (l : List Value) (c : Nat) : Option Str := match l[c]? with
  | some (.str x _) => some x
  | _ => none
theorem strAt_of {l : List Value} {c : Nat} {x : Str} (h : strAt l c = some x) : ∃ tk, l[c]? = some (.str x tk) := by
  unfold strAt at h
  split at h
  · rename_i y tk e; exact ⟨tk, by rw [e, Option.some.inj h]⟩
  · cases h
theorem encmap (P : Params) : ∃ l n dd sl, (hd.heap_39 P).lookup 46 = some ⟨.type "list", dd, .seq (List.toArray l) n, sl⟩ ∧ ∀ c, c < 256 → strAt l c = some (S (enc1 c)) := by
  refine ⟨_, _, _, _, rfl, ?_⟩
  decide +kernel
local macro_rules | `(tactic| walk_at "getMethod str") => `(tactic| with_reducible refine gm_translate ?_)
theorem tr_rule {prog : Program} {w : World} {A : Around} {E : Value → Shared → Prop} {s : Shared} {Q : Value → Shared → Prop} {h₀ : Heap} {L : Addr} {m : Str → Option Value} {u : List Nat} {t : Tok} (F : Fr h₀ L s.heap m) (X : (hd.heap_39 w.params).In h₀) (hu : textC u) (hul : u.length ≤ 100000)
    (h : ∀ t' k, Q (.str (S (encT u)) t') { s with toks := k }) : wpAny (model prog w) A (call (.builtin "str.translate") [.str (S u) t, .ref 46]) Q E s := by
  obtain ⟨l, n, dd, sl, e, hl⟩ := encmap w.params
  refine translateS enc1 (lstK (X.keeps F.keep) e) (fun c hc => by have := (hu c hc).1; omega) (fun c hc => ?_) ?_ h
  · obtain ⟨tk, e⟩ := strAt_of (hl c (hu c hc).1)
    exact ⟨tk, by simpa using e⟩
  · have := len_encT u
    exact (by unfold encT at this; omega : (u.flatMap enc1).length ≤ 16777216)
local macro_rules | `(tactic| walk_at "call builtin:str.translate") => `(tactic| (k_here; (refine' tr_rule ?k1 ?k2 ?k3 ?k4 ?_; (case k1 => k_asm); (case k2 => k_asm); (case k3 => assumption); (case k4 => assumption)); intro _ _))

local macro_rules | `(tactic| walk_at "call builtin:len") => `(tactic| (k_here; (with_reducible show wpAny _ _ (call (Value.builtin "len") [Value.str _ _]) _ _ _); (refine' lenS ?hx ?hs ?_; (case hx => walk_at "MINE str"); (case hs => walk_at "MINE size"))))
local macro_rules | `(tactic| walk_at "compareOp Eq str str") => `(tactic| (refine' eqS ?hx ?hy ?_; (case hx => walk_at "MINE str"); (case hy => walk_at "MINE str")))
local macro_rules | `(tactic| walk_at "compareOp In str str") => `(tactic| (refine' in1S ?hx ?hy ?_; (case hx => walk_at "MINE str"); (case hy => walk_at "MINE str")))
local macro_rules | `(tactic| walk_at "subscriptTail Name BinOp str int") => `(tactic| (refine' itemS ?hx ?h0 ?h1 ?h2 ?_ ?hs ?ht; (case hx => walk_at "MINE str"); (case h0 => omega); (case h1 => omega); (case h2 => omega); (case hs => with_unfolding_all rfl); (case ht => intro _; with_unfolding_all rfl)))
local macro_rules | `(tactic| walk_at "subscriptTail Name UnaryOp str int") => `(tactic| (refine' itemLastS' ?hx ?h0 ?_ ?hs ?ht; (case hx => walk_at "MINE str"); (case h0 => assumption); (case hs => with_unfolding_all rfl); (case ht => intro _; with_unfolding_all rfl)))
local macro_rules | `(tactic| walk_at "subscriptTail Name Slice str ref") => `(tactic| (k_here; (with_reducible rename Fr _ _ _ _ => sF'); (with_reducible rename News _ _ _ _ => sN'); first
  | ((refine' sliceNeg (s := ⟨_, _, _, _, _⟩) sF' sN' ?hx ?hs ?h0 ?h2 ?_ ?hs1 ?ht1; (case hx => walk_at "MINE str"); (case hs => walk_at "MINE size"); (case h0 => omega); (case h2 => first | omega | k_extra "neg"); (case hs1 => with_unfolding_all rfl); (case ht1 => intro _; with_unfolding_all rfl)); intro h' t' k' F' N')
  | ((refine' sliceSS (s := ⟨_, _, _, _, _⟩) sF' sN' ?hx ?hs ?h0 ?h1 ?h2 ?_ ?hs1 ?ht1; (case hx => walk_at "MINE str"); (case hs => walk_at "MINE size"); (case h0 => omega); (case h1 => omega); (case h2 => omega); (case hs1 => with_unfolding_all rfl); (case ht1 => intro _; with_unfolding_all rfl)); intro h' t' k' F' N')
  | ((refine' sliceSN (s := ⟨_, _, _, _, _⟩) sF' sN' ?hx ?hs ?h0 ?h2 ?_ ?hs1 ?ht1; (case hx => walk_at "MINE str"); (case hs => walk_at "MINE size"); (case h0 => omega); (case h2 => omega); (case hs1 => with_unfolding_all rfl); (case ht1 => intro _; with_unfolding_all rfl)); intro h' t' k' F' N')))

theorem okC_brk : ∀ c, okC c → brkC c := by
  intro c h
  have key : ∀ c, c < 127 → Unicode.isLineBreak c = true → c = 10 ∨ ¬ (c = 9 ∨ 32 ≤ c) := by decide +kernel
  intro hb
  unfold okC at h
  have := key c (by omega) hb
  omega
theorem encT_okC {u : List Nat} (h : textC u) : ∀ c ∈ encT u, okC c := by
  intro c hc
  obtain ⟨d, hd, hm⟩ := List.mem_flatMap.mp hc
  by_cases h10 : d = 10
  · subst h10
    rw [show enc1 10 = [10] from rfl, List.mem_singleton] at hm
    exact .inl hm
  · exact (enc1_ok ⟨(h d hd).1, (h d hd).2, h10⟩ c hm).1
theorem encL_nil (n : Nat) : encL n [] = [] := by
  have e : rowsOf n [] = [finRow n []] := by rw [rowsOf, dif_neg (by simp)]
  show joinNL ((rowsOf n []) ++ []) = []
  rw [e]; rfl
theorem mem_split_len {r t : List Nat} (h : r ∈ splitNL t) : r.length ≤ t.length := by
  have key : ∀ ls : List (List Nat), r ∈ ls → r.length + 1 ≤ (ls.map fun l => l.length + 1).sum := by
    intro ls
    induction ls with
    | nil => intro h; cases h
    | cons a b ih =>
      intro h
      rw [List.map_cons, List.sum_cons]
      rcases List.mem_cons.mp h with rfl | h
      · omega
      · have := ih h; omega
  have := key _ h
  rw [len_split] at this
  omega
theorem mem_lines_len {r t : List Nat} (h : r ∈ linesNL t) : r.length ≤ t.length := by
  unfold linesNL at h
  split at h
  · exact mem_split_len (List.dropLast_subset _ h)
  · exact mem_split_len h
theorem lines_rows {n : Nat} {t : List Nat} (h : t ≠ []) : (splitNL t).flatMap (rowsOf n) = (linesNL t).flatMap (rowsOf n) ++ (if t.getLast? = some 10 then [[]] else []) := by
  unfold linesNL
  by_cases hl : (splitNL t).getLast? = some []
  · rw [if_pos hl, if_pos ((last_split t h).mp hl)]
    have e : rowsOf n [] = [finRow n []] := by rw [rowsOf, dif_neg (by simp)]
    have : (splitNL t).dropLast ++ [[]] = splitNL t := by
      obtain ⟨hne, e⟩ := List.getLast?_eq_some_iff.mp hl
      rw [e, List.dropLast_concat]
    conv => lhs; rw [← this]
    rw [List.flatMap_append]
    show _ ++ (rowsOf n [] ++ []) = _
    rw [e]; rfl
  · rw [if_neg hl, if_neg (fun q => hl ((last_split t h).mpr q)), List.append_nil]
theorem rows_sum (ls : List (List Nat)) : ls.length ≤ (ls.map fun l => l.length + 1).sum := by
  induction ls with
  | nil => simp
  | cons a b ih => rw [List.map_cons, List.sum_cons, List.length_cons]; omega
theorem rows_few {n : Nat} {u r : List Nat} {i : Nat} (hr : (linesNL (encT u))[i]? = some r) (hul : u.length ≤ 100000) : (((linesNL (encT u)).take i).flatMap (rowsOf n)).length + (rowsOf n r).length ≤ 1600000 := by
  have hne : encT u ≠ [] := by
    intro e; rw [e] at hr; simp [linesNL, splitNL] at hr
  have h1 := lines_rows (n := n) hne
  have h2 := len_rows_encT n u
  have h4 := rows_sum ((splitNL (encT u)).flatMap (rowsOf n))
  rw [h1, List.length_append] at h4
  have h5 : linesNL (encT u) = (linesNL (encT u)).take i ++ r :: (linesNL (encT u)).drop (i + 1) := by
    have hi := (List.getElem?_eq_some_iff.mp hr).1
    have e := List.drop_eq_getElem_cons hi
    have e2 : (linesNL (encT u))[i] = r := (List.getElem?_eq_some_iff.mp hr).2
    rw [e2] at e
    rw [← e, List.take_append_drop]
  have h6 := congrArg (fun l => (l.flatMap (rowsOf n)).length) h5
  simp only [List.flatMap_append, List.flatMap_cons, List.length_append] at h6
  rw [h1] at h2
  omega
theorem enc_c (w : World) (p : Program) (loose : List Str) (mean : ExcName → Option Value) (mg mb : Str → Option Value) (u : List Nat) (n : Nat) (tu tn : Tok) (hu : textC u) (hul : u.length ≤ 100000) (hn : 4 ≤ n) (hn2 : n ≤ 1000) :
    PClaim PySem.Challenge.rw_dm5004_01.row.prog w (hd.heap_39 w.params) p loose mean mg mb 3 57 (fun _ => True) [.str (S u) tu, .int (n : Int) tn] (backS (encL n u)) := by
  k_fill
  intro dp un gd cn cs a ccd cl outer A₀ base h₀ L m s Q E B F X T hk hneed hd hun hret
  have hte := len_encT u
  have htb : ∀ c ∈ encT u, brkC c := fun c hc => okC_brk c (encT_okC hu c hc)
  refine wpAny_call ?_
  k_dflt (refine' code_pure (binds := [(Str.ofString "body", .str (S u) tu), (Str.ofString "maxlinelen", .int (n : Int) tn), (Str.ofString "eol", .str (Str.ofString "\n") 189)]) ?k1 ?k2 ?k3 ?k5 ?kA ?kF ?kK ?k6 ?k7 ?k8 ?k9 ?kB ?_ ?c2 ?c3 ?c4 ?c5; (case kA => exact rfl); (case kF => exact rfl); (case kK => assumption); (case k1 => k_asm); (case k2 => k_asm); (case k3 => k_asm); (case k5 => k_asm); (case k6 => k_is); (case k7 => k_is); (case k8 => ktr_room); (case k9 => first | exact BindsTo.of_eq rfl | exact binds_K (by k_in) rfl (by k_is) rfl rfl rfl); (case c5 => decide); (case kB => exact locs rfl); (case c2 => exact rfl); (case c3 => exact rfl); (case c4 => exact rfl); k_whole)
  intro g L' h₁ hg F' N' B' X' T'
  subst hg
  (try dsimp only)
  k_fold
  k_with_none
  k_with "brk" => assumption
  k_steps
  · rename Fr _ _ _ _ => lF
    rename (u = []) => hu0
    subst hu0
    dsimp only
    exact hret _ _ _ (fun b o e => lF.keep b o e) ⟨tu, by rw [encL_nil]⟩
  · rename_i lA h4 l12 h3 uA h2 l11 h1' dA vs h' k' hvs lF lN l1
    obtain ⟨l1a, l1b⟩ := l1
    refine Halt.to ?_
    obtain ⟨t1, t2, t3, lF⟩ : ∃ t1 t2 t3, Fr s.heap L' h' (fun y => if y = Str.ofString "append" then some (.ref uA) else if y = Str.ofString "encoded_body" then some (.ref lA) else if y = Str.ofString "maxlinelen1" then some (.int ((n : Int) - 1) t1) else if y = Str.ofString "soft_break" then some (.str (S [61, 10]) t2) else if y = Str.ofString "body" then some (.str (S (encT u)) t3) else List.lookup y [(Str.ofString "body", Value.str (S u) tu), (Str.ofString "maxlinelen", Value.int (n : Int) tn), (Str.ofString "eol", Value.str (Str.ofString "\n") 189)].reverse) := ⟨_, _, _, lF⟩
    refine for_tok (σ := List Value × Nat) (l := dA) (vs := vs) (lo := listOf vs.toArray 0) (fun c => [(dA, listOf vs.toArray 0), (uA, boundApp lA), (lA, listOf c.1.toArray c.2)]) (fun _ => []) [Str.ofString "start", Str.ofString "laststart", Str.ofString "stop", Str.ofString "room", Str.ofString "q"] (fun i c => StrL c.1 (((linesNL (encT u)).take i).flatMap (rowsOf n))) ([], 0) rfl rfl ⟨0, rfl⟩ (.inr fun c => .head _) lF lN trivial (by simpa using StrL.nil) ?_ ?_
    · intro i v c τ u' h tk I o hv hP hne F' N'
      clear lF lN
      obtain ⟨ws, k0⟩ := c
      obtain ⟨r, tkr, hr, rfl⟩ := hvs.get hv
      have hI1 := neN (hne _ (.head _))
      have hI2 := neN (hne _ (.tail _ (.head _)))
      have hI3 := neN (hne _ (.tail _ (.tail _ (.head _))))
      dsimp only [kstB, psT] at F' hP N' hI1 hI2 hI3
      have hrl : r.length ≤ 300000 := Nat.le_trans (mem_lines_len (List.mem_of_getElem? hr)) (by omega)
      have hrows := rows_few (n := n) hr hul
      k_steps
      rename_i hW lF lN
      have lF2 : ∃ t4 t5, Fr s.heap L' hW (fun y => if y = Str.ofString "laststart" then some (.int ((r.length : Int) - 1 - n) t4) else if y = Str.ofString "start" then some (.int 0 t5) else if y = Str.ofString "line" then some (.str (S r) tkr) else if [Str.ofString "start", Str.ofString "laststart", Str.ofString "stop", Str.ofString "room", Str.ofString "q"].contains y = true then u' y else if y = Str.ofString "append" then some (.ref uA) else if y = Str.ofString "encoded_body" then some (.ref lA) else if y = Str.ofString "maxlinelen1" then some (.int ((n : Int) - 1) t1) else if y = Str.ofString "soft_break" then some (.str (S [61, 10]) t2) else if y = Str.ofString "body" then some (.str (S (encT u)) t3) else List.lookup y [(Str.ofString "body", Value.str (S u) tu), (Str.ofString "maxlinelen", Value.int (n : Int) tn), (Str.ofString "eol", Value.str (Str.ofString "\n") 189)].reverse) := ⟨_, _, lF⟩
      clear lF
      obtain ⟨t4, t5, lF⟩ := lF2
      refine Halt.to ?_
      refine while_tok (σ := Int × List Value × Nat) (fun c => [(I, o), (dA, listOf vs.toArray 0), (uA, boundApp lA), (lA, listOf c.2.1.toArray c.2.2)]) (fun c => [(Str.ofString "start", .int c.1)]) [Str.ofString "stop"] (fun c => ∃ done, StrL c.2.1 ((((linesNL (encT u)).take i).flatMap (rowsOf n)) ++ done) ∧ done ++ rowsOf n (r.drop c.1.toNat) = rowsOf n r ∧ 0 ≤ c.1 ∧ (c.1 = 0 ∨ c.1 + 2 ≤ r.length)) (fun c => r.length - c.1.toNat) (0, ws, k0) lF lN ⟨⟨_, rfl⟩, trivial⟩ ⟨[], by simpa using hP, by simp, Int.le_refl 0, .inl rfl⟩ ?_
      clear lF lN
      intro c τ2 u2 hh tk2 hQ F2 N2
      obtain ⟨st, ws2, k2⟩ := c
      obtain ⟨dn, q1, q2, q3, q4⟩ := hQ
      dsimp only at q1 q2 q3 q4
      dsimp only [kstB, psT] at F2 N2
      have hws2 : ws2.toArray.size ≤ 16777216 := by
        have e1 := q1.length
        have e2 := congrArg List.length q2
        rw [List.length_append] at e1 e2
        rw [List.size_toArray]; omega
      generalize τ2 0 = tS at F2
      k_with "size" => exact hws2
      k_with "neg" => (
        have := List.length_pos_iff.mpr ‹¬ r = []›
        omega)
      k_with "bl" => (
        have hq := ‹r.getLastD 0 ∈ [32, 9]›
        simpa [isBl] using hq)
      k_steps
      all_goals (try (walk_at "MINE quote"; k_steps))
      all_goals (try (refine' bstands ?k1 ?k2; (case k1 => k_asm); (case k2 => exact .tail _ (.tail _ (.head _)))))
      all_goals (rename Fr _ _ _ _ => lF; rename News _ _ _ _ => lN; (try simp only [List.push_toArray] at lN))
      all_goals (first | dsimp only [WTokPost] | dsimp only [TokPost])
      · rw [rows_step q3 (by assumption) hn, if_pos (by assumption)] at q2
        refine wtok_end (st + ((n : Int) - 1) - 2, ws2 ++ [_], k2 + 1) lF lN (fun p hp => hp) ⟨⟨_, rfl⟩, trivial⟩ (fun z g2 g3 => by have g2 := g2.1; have g4 := off1 g3; simp [g2, g4]) ⟨dn ++ [_], by rw [← List.append_assoc]; exact q1.snoc _ _, by rw [List.append_assoc]; exact q2, by dsimp only; omega, by dsimp only; omega⟩ (by dsimp only; omega)
      · rw [rows_step q3 (by assumption) hn, if_neg (by assumption), if_pos (by assumption)] at q2
        refine wtok_end (st + ((n : Int) - 1) - 1, ws2 ++ [_], k2 + 1) lF lN (fun p hp => hp) ⟨⟨_, rfl⟩, trivial⟩ (fun z g2 g3 => by have g2 := g2.1; have g4 := off1 g3; simp [g2, g4]) ⟨dn ++ [_], by rw [← List.append_assoc]; exact q1.snoc _ _, by rw [List.append_assoc]; exact q2, by dsimp only; omega, by dsimp only; omega⟩ (by dsimp only; omega)
      · rw [rows_step q3 (by assumption) hn, if_neg (by assumption), if_neg (by assumption)] at q2
        refine wtok_end (st + ((n : Int) - 1), ws2 ++ [_], k2 + 1) lF lN (fun p hp => hp) ⟨⟨_, rfl⟩, trivial⟩ (fun z g2 g3 => by have g2 := g2.1; have g4 := off1 g3; simp [g2, g4]) ⟨dn ++ [_], by rw [← List.append_assoc]; exact q1.snoc _ _, by rw [List.append_assoc]; exact q2, by dsimp only; omega, by dsimp only; omega⟩ (by dsimp only; omega)
      all_goals (
        refine tok_end (ws2 ++ [_], k2 + 1) lF lN (.head _) (fun p hp => .tail _ hp) (fun p hp => by
          simp only [List.mem_cons, List.not_mem_nil, or_false] at hp
          rcases hp with rfl | rfl | rfl
          · exact hI1
          · exact hI2
          · exact hI3) trivial (fun z g1 _ g3 => by
            obtain ⟨a1, a2, a3, a4, a5⟩ := off5 g3
            simp [g1, a1, a2, a3, a4, a5]) (fin_done q3 (by assumption) hr q1 q2 ?_)
        first
          | exact fin_nil (by assumption)
          | exact fin_plain (by assumption)
          | exact fin_esc q3 q4 (by assumption) (by assumption) (by assumption)
          | exact fin_two q3 q4 (by assumption) (by assumption) (by assumption)
          | exact fin_else q3 q4 (by assumption) (by assumption) (by assumption) (by assumption) (by assumption))
    · intro c τ u' h tk hP F' N'
      clear lF lN
      obtain ⟨ws, k0⟩ := c
      have hne : ¬ encT u = [] := fun e => by
        have := encT_nil_iff.mp e
        contradiction
      dsimp only [kstB, psT] at F' hP N'
      rw [hvs.length, List.take_length] at hP
      have hsum := len_rows_encT n u
      have hrw := lines_rows (n := n) hne
      have hws3 : ws.toArray.size ≤ 16777216 := by
        have e1 := hP.length
        have e2 := rows_sum ((splitNL (encT u)).flatMap (rowsOf n))
        have e3 := congrArg List.length hrw
        rw [List.length_append] at e3
        rw [List.size_toArray]; omega
      k_with "size" => exact hws3
      k_steps
      all_goals (try (refine' bstands ?k1 ?k2; (case k1 => k_asm); (case k2 => exact .tail _ (.head _))))
      all_goals (rename Fr _ _ _ _ => lF; rename News _ _ _ _ => lN; (try simp only [List.push_toArray] at lN))
      · have hl : (encT u).getLast? = some 10 := by
          rw [getLastD_of hne]
          have hm := List.mem_of_getLast? (getLastD_of hne)
          have := encT_okC hu _ hm
          have hq : (encT u).getLastD 0 ∈ [13, 10] := by assumption
          simp only [List.mem_cons, List.not_mem_nil, or_false] at hq
          unfold okC at this
          rw [Option.some.injEq]; omega
        rw [if_pos hl] at hrw
        rw [hrw] at hsum
        refine joinS (D := lA) (vs := ws ++ [_]) (ls := (linesNL (encT u)).flatMap (rowsOf n) ++ [[]]) ⟨_, (lN _ (.tail _ (.tail _ (.head _)))).1, rfl, ⟨_, rfl⟩⟩ (by rw [lit_e]; exact hP.snoc _ _) lit_nl (by omega) ?_
        intro t' k'
        k_steps
        rw [← hrw]
        exact hret _ _ _ (fun b o e => lF.keep b o e) ⟨_, rfl⟩
      · have hl : ¬ (encT u).getLast? = some 10 := by
          rw [getLastD_of hne]
          have hq : ¬ (encT u).getLastD 0 ∈ [13, 10] := by assumption
          intro e
          rw [Option.some.injEq] at e
          rw [e] at hq
          simp at hq
        rw [if_neg hl, List.append_nil] at hrw
        rw [hrw] at hsum
        refine joinS (D := lA) (vs := ws) (ls := (linesNL (encT u)).flatMap (rowsOf n)) ⟨_, (lN _ (.tail _ (.tail _ (.head _)))).1, rfl, ⟨_, rfl⟩⟩ hP lit_nl (by omega) ?_
        intro t' k'
        k_steps
        rw [← hrw]
        exact hret _ _ _ (fun b o e => lF.keep b o e) ⟨_, rfl⟩
end Mine
end
section
open PySem PySem.W PySem.Spec PySem.Calls PyProof.Rows PyProof.V
set_option Elab.async false
namespace Mine
set_option maxRecDepth 100000
set_option maxHeartbeats 4000000
theorem len_decW : ∀ (m : Nat) (l : List Nat), l.length ≤ m → (decW l).length ≤ l.length + 1
  | 0, l, h => by
    have : l = [] := List.length_eq_zero_iff.mp (by omega)
    subst this; simp [decW]
  | m + 1, [], h => by simp [decW]
  | m + 1, [c], h => by unfold decW; split <;> simp
  | m + 1, [c, d], h => by
    have := len_decW m [d] (by simp at h ⊢; omega)
    unfold decW
    simp only [List.length_cons, List.length_nil] at this ⊢
    omega
  | m + 1, c :: h1 :: h2 :: r, h => by
    simp only [List.length_cons] at h
    have i1 := len_decW m (h1 :: h2 :: r) (by simp only [List.length_cons]; omega)
    have i2 := len_decW m r (by omega)
    unfold decW
    simp only [List.length_cons] at i1 ⊢
    split
    · split
      · simp
      · simp only [List.length_cons]; omega
    · simp only [List.length_cons]; omega
theorem len_decLine (l : List Nat) : (decLine l).length ≤ l.length + 1 := by
  unfold decLine
  have h1 := len_rstripL l
  split
  · simp
  · have := len_decW _ (rstripL l) (Nat.le_refl _)
    omega
theorem len_dec_take : ∀ (ls : List (List Nat)) (i : Nat), ((ls.take i).flatMap decLine).length ≤ (ls.map fun l => l.length + 1).sum
  | [], i => by simp
  | a :: r, 0 => by simp
  | a :: r, i + 1 => by
    have := len_dec_take r i
    have h := len_decLine a
    rw [List.take_succ_cons, List.flatMap_cons, List.length_append, List.map_cons, List.sum_cons]
    omega
theorem sum_lines (e : List Nat) : ((linesNL e).map fun l => l.length + 1).sum ≤ e.length + 1 := by
  have h := len_split e
  unfold linesNL
  by_cases q : (splitNL e).getLast? = some []
  · rw [if_pos q]
    obtain ⟨x, hx⟩ := List.getLast?_eq_some_iff.mp q
    rw [hx] at h ⊢
    rw [List.dropLast_concat]
    rw [List.map_append, List.sum_append] at h
    omega
  · rw [if_neg q, h]
    exact Nat.le_refl _
theorem len_dec_lines (e : List Nat) (i : Nat) : (((linesNL e).take i).flatMap decLine).length ≤ e.length + 1 := Nat.le_trans (len_dec_take _ _) (sum_lines e)
theorem mem_lines_le {r t : List Nat} (h : r ∈ linesNL t) : r.length ≤ t.length := by
  have h1 := sum_lines t
  have key : ∀ ls : List (List Nat), r ∈ ls → r.length + 1 ≤ (ls.map fun l => l.length + 1).sum := by
    intro ls
    induction ls with
    | nil => intro h; cases h
    | cons a b ih =>
      intro h
      rw [List.map_cons, List.sum_cons]
      rcases List.mem_cons.mp h with rfl | h
      · omega
      · have := ih h; omega
  have := key _ h
  omega
section
variable {k : List Nat} {i : Int}
theorem drop_at (h0 : 0 ≤ i) (h1 : i < k.length) : k.drop i.toNat = k.getD i.toNat 0 :: k.drop (i + 1).toNat := by
  have hk : i.toNat < k.length := by omega
  rw [List.drop_eq_getElem_cons hk, show (i + 1).toNat = i.toNat + 1 by omega, List.getD_eq_getElem?_getD, List.getElem?_eq_getElem hk]; rfl
theorem drop_three (h0 : 0 ≤ i) (h1 : i + 2 < k.length) : k.drop i.toNat = k.getD i.toNat 0 :: k.getD (i + 1).toNat 0 :: k.getD (i + 2).toNat 0 :: k.drop (i + 3).toNat := by
  rw [drop_at h0 (by omega), drop_at (i := i + 1) (by omega) (by omega), drop_at (i := i + 1 + 1) (by omega) (by omega)]
  rw [show i + 1 + 1 = i + 2 by omega, show i + 2 + 1 = i + 3 by omega]
theorem slice3 (h0 : 0 ≤ i) (h1 : i + 2 < k.length) (hc : [k.getD i.toNat 0] = [61]) : (k.drop i.toNat).take ((i + 3).toNat - i.toNat) = [61, k.getD (i + 1).toNat 0, k.getD (i + 2).toNat 0] := by
  rw [drop_three h0 h1, show (i + 3).toNat - i.toNat = 3 by omega]
  rw [List.cons.injEq] at hc
  rw [hc.1]; rfl
theorem dec_plain (h0 : 0 ≤ i) (h1 : i < k.length) (hc : ¬ [k.getD i.toNat 0] = [61]) : decW (k.drop i.toNat) = k.getD i.toNat 0 :: (if i + 1 = k.length then [10] else decW (k.drop (i + 1).toNat)) := by
  rw [drop_at h0 h1, decW_plain (fun e => hc (by rw [e]))]
  congr 1
  by_cases h : i + 1 = k.length
  · rw [if_pos h, if_pos (List.drop_eq_nil_of_le (by omega))]
  · rw [if_neg h, if_neg (by
      intro e
      have := congrArg List.length e
      rw [List.length_drop, List.length_nil] at this
      omega)]
theorem dec_last (h0 : 0 ≤ i) (hc : [k.getD i.toNat 0] = [61]) (h : i + 1 = k.length) : decW (k.drop i.toNat) = [] := by
  rw [drop_at h0 (by omega), List.drop_eq_nil_of_le (by omega)]
  rw [List.cons.injEq] at hc
  rw [hc.1]; rfl
theorem dec_hex (h0 : 0 ≤ i) (h1 : i + 2 < k.length) (hc : [k.getD i.toNat 0] = [61]) (b1 : isHex (k.getD (i + 1).toNat 0) = true) (b2 : isHex (k.getD (i + 2).toNat 0) = true) :
    decW (k.drop i.toNat) = (16 * hexv (k.getD (i + 1).toNat 0) + hexv (k.getD (i + 2).toNat 0)) :: (if i + 3 = k.length then [10] else decW (k.drop (i + 3).toNat)) := by
  rw [List.cons.injEq] at hc
  rw [drop_three h0 h1, decW, if_pos ⟨hc.1, b1, b2⟩]
  congr 1
  by_cases h : i + 3 = k.length
  · rw [if_pos h, if_pos (List.drop_eq_nil_of_le (by omega))]
  · rw [if_neg h, if_neg (by
      intro e
      have := congrArg List.length e
      rw [List.length_drop, List.length_nil] at this
      omega)]
theorem dec_else (h0 : 0 ≤ i) (h1 : i < k.length) (h : ¬ i + 1 = k.length) (hb : ¬ (i + 2 < k.length ∧ isHex (k.getD (i + 1).toNat 0) = true ∧ isHex (k.getD (i + 2).toNat 0) = true)) :
    decW (k.drop i.toNat) = k.getD i.toNat 0 :: decW (k.drop (i + 1).toNat) := by
  by_cases h3 : i + 2 < k.length
  · have e := drop_three h0 h3
    have e2 := drop_at (k := k) h0 (by omega)
    rw [e2, List.cons.injEq] at e
    rw [e2, e.2, decW, if_neg (fun q => hb ⟨h3, q.2⟩)]
  · rw [drop_at h0 h1, drop_at (i := i + 1) (by omega) (by omega), List.drop_eq_nil_of_le (as := k) (by omega)]
    rfl
end
end Mine
end
section
set_option Elab.async false
namespace Mine
set_option maxRecDepth 100000
section
variable {k d : List Nat} {i : Int}
theorem dl_nil (h : i + 1 = k.length) : k.drop (i + 1).toNat = [] := List.drop_eq_nil_of_le (by omega)
theorem dl_nil3 (h : i + 3 = k.length) : k.drop (i + 3).toNat = [] := List.drop_eq_nil_of_le (by omega)
theorem q_plain_end (h0 : 0 ≤ i) (h1 : i < k.length) (hc : ¬ [k.getD i.toNat 0] = [61]) (h : i + 1 = k.length) : d ++ [k.getD i.toNat 0] ++ [10] ++ decW (k.drop (i + 1).toNat) = d ++ decW (k.drop i.toNat) := by
  rw [dec_plain h0 h1 hc, if_pos h, dl_nil h]
  simp [decW]
theorem q_plain (h0 : 0 ≤ i) (h1 : i < k.length) (hc : ¬ [k.getD i.toNat 0] = [61]) (h : ¬ i + 1 = k.length) : d ++ [k.getD i.toNat 0] ++ decW (k.drop (i + 1).toNat) = d ++ decW (k.drop i.toNat) := by
  rw [dec_plain h0 h1 hc, if_neg h]
  simp
theorem q_last (h0 : 0 ≤ i) (hc : [k.getD i.toNat 0] = [61]) (h : i + 1 = k.length) : d ++ decW (k.drop (i + 1).toNat) = d ++ decW (k.drop i.toNat) := by
  rw [dec_last h0 hc h, dl_nil h]; rfl
theorem q_hex_end (h0 : 0 ≤ i) (h1 : i + 2 < k.length) (hc : [k.getD i.toNat 0] = [61]) (b1 : k.getD (i + 1).toNat 0 ∈ hexL) (b2 : k.getD (i + 2).toNat 0 ∈ hexL) (h : i + 3 = k.length) :
    d ++ [16 * hexv (k.getD (i + 1).toNat 0) + hexv (k.getD (i + 2).toNat 0)] ++ [10] ++ decW (k.drop (i + 3).toNat) = d ++ decW (k.drop i.toNat) := by
  rw [dec_hex h0 h1 hc (by rw [← hex_mem]; exact decide_eq_true b1) (by rw [← hex_mem]; exact decide_eq_true b2), if_pos h, dl_nil3 h]
  simp [decW]
theorem q_hex (h0 : 0 ≤ i) (h1 : i + 2 < k.length) (hc : [k.getD i.toNat 0] = [61]) (b1 : k.getD (i + 1).toNat 0 ∈ hexL) (b2 : k.getD (i + 2).toNat 0 ∈ hexL) (h : ¬ i + 3 = k.length) :
    d ++ [16 * hexv (k.getD (i + 1).toNat 0) + hexv (k.getD (i + 2).toNat 0)] ++ decW (k.drop (i + 3).toNat) = d ++ decW (k.drop i.toNat) := by
  rw [dec_hex h0 h1 hc (by rw [← hex_mem]; exact decide_eq_true b1) (by rw [← hex_mem]; exact decide_eq_true b2), if_neg h]
  simp
theorem q_else (h0 : 0 ≤ i) (h1 : i < k.length) (h : ¬ i + 1 = k.length) (hb : ¬ (i + 2 < k.length ∧ k.getD (i + 1).toNat 0 ∈ hexL ∧ k.getD (i + 2).toNat 0 ∈ hexL)) :
    d ++ [k.getD i.toNat 0] ++ decW (k.drop (i + 1).toNat) = d ++ decW (k.drop i.toNat) := by
  rw [dec_else h0 h1 h (fun q => hb ⟨q.1, by have := q.2.1; rw [← hex_mem] at this; exact of_decide_eq_true this, by have := q.2.2; rw [← hex_mem] at this; exact of_decide_eq_true this⟩)]
  simp
end
section
variable {e d : List Nat}
theorem endStrip_yes (hne : ¬ e = []) (h1 : ¬ e.getLastD 0 ∈ [13, 10]) (h2 : d.getLast? = some 10) : endStrip e d = d.dropLast := by
  unfold endStrip
  rw [getLastD_of hne, if_pos ⟨fun q => h1 (by simp only [Option.some.injEq] at q; rw [q]; decide), fun q => h1 (by simp only [Option.some.injEq] at q; rw [q]; decide), h2⟩]
theorem endStrip_no1 (hne : ¬ e = []) (h1 : e.getLastD 0 ∈ [13, 10]) : endStrip e d = d := by
  unfold endStrip
  rw [getLastD_of hne, if_neg]
  rintro ⟨a, b, -⟩
  simp only [List.mem_cons, List.not_mem_nil, or_false] at h1
  rcases h1 with q | q
  · exact b (by rw [q])
  · exact a (by rw [q])
theorem endStrip_no2 (h2 : ¬ d.getLast? = some 10) : endStrip e d = d := by
  unfold endStrip
  rw [if_neg fun q => h2 q.2.2]
theorem pos_last (h2 : d.getLast? = some 10) : 1 ≤ d.length := by
  cases d with
  | nil => cases h2
  | cons => simp
end
theorem off3 {a b c z : PySem.Str} (h : [a, b, c].contains z = false) : z ≠ a ∧ z ≠ b ∧ z ≠ c := by
  simpa using h
end Mine
end
section
open PySem PySem.W PySem.Spec PySem.Calls PyProof.Rows PyProof.V
set_option Elab.async false
namespace Mine
theorem fresh_MDec : True := by
  w_top off
  trivial
set_option maxRecDepth 100000
set_option maxHeartbeats 4000000
theorem rstripK {prog : Program} {w : World} {A : Around} {E : Value → Shared → Prop} {s : Shared} {x : Str} {t : Tok} {l : List Nat} {Q : Value → Shared → Prop} (hx : x = S l) (hsz : l.length ≤ 16777216) (h : ∀ r t' k, r = rstripL l → r.length ≤ l.length → Q (.str (S r) t') { s with toks := k }) : wpAny (model prog w) A (call (.builtin "str.rstrip") [.str x t]) Q E s :=
  rstripS hx hsz fun t' k => h _ t' k rfl (len_rstripL l)
local macro_rules | `(tactic| walk_at "exec For Name Call cons nil") => `(tactic| (k_here; (try k_fold); (rename Fr _ _ _ _ => lF'); (with_unfolding_all refine' For_halt lF' ?k1 ?k2 ?_; (case k1 => exact rfl); (case k2 => exact rfl); k_whole)))
local macro_rules | `(tactic| walk_at "exec While Compare cons nil") => `(tactic| (k_here; (try k_fold); refine Halt.out ?_))
local macro_rules | `(tactic| walk_at "MINE str") => `(tactic| first | with_reducible exact lit_nl | with_reducible exact lit_e | with_reducible exact lit_eq | with_reducible exact lit_bl | with_reducible exact lit_dd | with_reducible exact lit_eu | with_reducible exact lit_hex | with_reducible exact lit_crlf | k_extra "lit" | with_reducible exact rfl)
local macro_rules | `(tactic| walk_at "MINE size") => `(tactic| first | omega | (simp only [List.length_append, List.length_cons, List.length_nil, List.length_take, List.length_drop, List.length_dropLast]; omega) | k_extra "size")
local macro_rules | `(tactic| walk_at "inplaceOp Add str str") => `(tactic| (refine' iaddS ?hx ?hy ?hs ?_; (case hx => walk_at "MINE str"); (case hy => walk_at "MINE str"); (case hs => walk_at "MINE size"); intro _ _))
local macro_rules | `(tactic| walk_at "binaryOp Add str str") => `(tactic| (refine' addS ?hx ?hy ?hs ?_; (case hx => walk_at "MINE str"); (case hy => walk_at "MINE str"); (case hs => walk_at "MINE size"); intro _ _))
local macro_rules | `(tactic| walk_at "truthy str") => `(tactic| (refine' truthyS ?hx ?hs ?_; (case hx => walk_at "MINE str"); (case hs => walk_at "MINE size")))
local macro_rules | `(tactic| walk_at "call builtin:str.splitlines") => `(tactic| (k_here; (refine' splitlinesS ?k1 ?k2 ?hx ?hb ?hs ?_; (case k1 => k_asm); (case k2 => k_asm); (case hx => walk_at "MINE str"); (case hb => k_extra "brk"); (case hs => walk_at "MINE size")); intro D' vs' h' k' hv' F' N' l1; (try k_lt l1); (try k_sweep)))
local macro_rules | `(tactic| walk_at "call builtin:len") => `(tactic| (k_here; (with_reducible show wpAny _ _ (call (Value.builtin "len") [Value.str _ _]) _ _ _); (refine' lenS ?hx ?hs ?_; (case hx => walk_at "MINE str"); (case hs => walk_at "MINE size"))))
local macro_rules | `(tactic| walk_at "compareOp Eq str str") => `(tactic| (refine' eqS ?hx ?hy ?_; (case hx => walk_at "MINE str"); (case hy => walk_at "MINE str")))
local macro_rules | `(tactic| walk_at "compareOp In str str") => `(tactic| (refine' in1S ?hx ?hy ?_; (case hx => walk_at "MINE str"); (case hy => walk_at "MINE str")))
local macro_rules | `(tactic| walk_at "subscriptTail Name BinOp str int") => `(tactic| (refine' itemS ?hx ?h0 ?h1 ?h2 ?_ ?hs ?ht; (case hx => walk_at "MINE str"); (case h0 => omega); (case h1 => omega); (case h2 => omega); (case hs => with_unfolding_all rfl); (case ht => intro _; with_unfolding_all rfl)))
local macro_rules | `(tactic| walk_at "subscriptTail Name UnaryOp str int") => `(tactic| (refine' itemLastS' ?hx ?h0 ?_ ?hs ?ht; (case hx => walk_at "MINE str"); (case h0 => assumption); (case hs => with_unfolding_all rfl); (case ht => intro _; with_unfolding_all rfl)))
local macro_rules | `(tactic| walk_at "compareOp NotEq str str") => `(tactic| (refine' neS ?hx ?hy ?_; (case hx => walk_at "MINE str"); (case hy => walk_at "MINE str")))
local macro_rules | `(tactic| walk_at "compareOp NotIn str str") => `(tactic| (refine' notin1S ?hx ?hy ?_; (case hx => walk_at "MINE str"); (case hy => walk_at "MINE str")))
local macro_rules | `(tactic| walk_at "call builtin:str.rstrip") => `(tactic| (k_here; (refine' rstripK ?hx ?hs ?_; (case hx => walk_at "MINE str"); (case hs => walk_at "MINE size")); intro kS _ _ hkS hkl))
local macro_rules | `(tactic| walk_at "call builtin:str.endswith") => `(tactic| (k_here; (refine' endswithS ?hx ?hy ?_; (case hx => walk_at "MINE str"); (case hy => walk_at "MINE str"))))
local macro_rules | `(tactic| walk_at "subscriptTail Name Name str int") => `(tactic| (refine' itemS ?hx ?h0 ?h1 ?h2 ?_ ?hs ?ht; (case hx => walk_at "MINE str"); (case h0 => omega); (case h1 => omega); (case h2 => omega); (case hs => with_unfolding_all rfl); (case ht => intro _; with_unfolding_all rfl)))
local macro_rules | `(tactic| walk_at "subscriptTail Name Slice str ref") => `(tactic| (k_here; (with_reducible rename Fr _ _ _ _ => sF'); (with_reducible rename News _ _ _ _ => sN'); first
  | ((refine' sliceUpNeg (s := ⟨_, _, _, _, _⟩) sF' sN' ?hx ?hs ?h2 ?_ ?hs1 ?ht1; (case hx => walk_at "MINE str"); (case hs => walk_at "MINE size"); (case h2 => k_extra "neg"); (case hs1 => with_unfolding_all rfl); (case ht1 => intro _; with_unfolding_all rfl)); intro h' t' k' F' N')
  | ((refine' sliceSS (s := ⟨_, _, _, _, _⟩) sF' sN' ?hx ?hs ?h0 ?h1 ?h2 ?_ ?hs1 ?ht1; (case hx => walk_at "MINE str"); (case hs => walk_at "MINE size"); (case h0 => omega); (case h1 => omega); (case h2 => omega); (case hs1 => with_unfolding_all rfl); (case ht1 => intro _; with_unfolding_all rfl)); intro h' t' k' F' N')))
local macro_rules | `(tactic| walk_at "MINE unq") => `(tactic| ((with_reducible show wpAny _ _ (call (Value.ref 37) [_]) _ _ _); k_extra "unq"; (have hCb := unquote_s; dsimp only [CbClaim, CbLists, CbRet] at hCb; refine' hCb _ _ _ _ _ _ _ _ _ ?cb1 ?cb2 _ _ _ _ _ _ _ _ _ _ _ _ _ _ _ _ _ _ ?k1 ?k2 ?k3 ?k4 ?k5 ?kK trivial ?kd ?ku ?kR; clear hCb; (case cb1 => k_extra "hex"); (case cb2 => k_extra "hex"); (case k1 => k_asm); (case k2 => k_asm); (case k3 => k_asm); (case k4 => k_asm); (case k5 => k_asm); (case kK => exact rfl); (case kd => ktr_room); (case ku => ktr_units); intro t9 h9 tk9 F9 N9; (try dsimp only); (try k_fold))))
local macro_rules | `(tactic| walk_at "call ref") => `(tactic| (k_here; walk_at "MINE unq"))

theorem dec_c (w : World) (p : Program) (loose : List Str) (mean : ExcName → Option Value) (mg mb : Str → Option Value) (e : List Nat) (te : Tok) (he : ∀ c ∈ e, brkC c) (hel : e.length ≤ 1000000) :
    PClaim PySem.Challenge.rw_dm5004_01.row.prog w (hd.heap_39 w.params) p loose mean mg mb 3 65 (fun _ => True) [.str (S e) te] (backS (decL e)) := by
  k_fill
  intro dp un gd cn cs a ccd cl outer A₀ base h₀ L m s Q E B F X T hk hneed hd hun hret
  refine wpAny_call ?_
  k_dflt (refine' code_pure (binds := [(Str.ofString "encoded", .str (S e) te), (Str.ofString "eol", .str (Str.ofString "\n") 189)]) ?k1 ?k2 ?k3 ?k5 ?kA ?kF ?kK ?k6 ?k7 ?k8 ?k9 ?kB ?_ ?c2 ?c3 ?c4 ?c5; (case kA => exact rfl); (case kF => exact rfl); (case kK => assumption); (case k1 => k_asm); (case k2 => k_asm); (case k3 => k_asm); (case k5 => k_asm); (case k6 => k_is); (case k7 => k_is); (case k8 => ktr_room); (case k9 => first | exact BindsTo.of_eq rfl | exact binds_K (by k_in) rfl (by k_is) rfl rfl rfl); (case c5 => decide); (case kB => exact locs rfl); (case c2 => exact rfl); (case c3 => exact rfl); (case c4 => exact rfl); k_whole)
  intro g L' h₁ hg F' N' B' X' T'
  subst hg
  (try dsimp only)
  k_fold
  k_with_none
  k_with "brk" => assumption
  k_steps
  · rename Fr _ _ _ _ => lF
    rename (e = []) => he0
    subst he0
    dsimp only
    exact hret _ _ _ (fun b o e => lF.keep b o e) ⟨te, rfl⟩
  · rename_i dA vs h' k' hvs lF lN l1
    refine Halt.to ?_
    refine for_tok (σ := List Nat) (l := dA) (vs := vs) (lo := listOf vs.toArray 0) (fun _ => [(dA, listOf vs.toArray 0)]) (fun c => [(Str.ofString "decoded", .str (S c))]) [Str.ofString "i", Str.ofString "n", Str.ofString "c"] (fun i c => c = ((linesNL e).take i).flatMap decLine) [] rfl rfl ⟨0, rfl⟩ (.inr fun c => .head _) lF lN ⟨⟨_, by rw [← lit_e]; rfl⟩, trivial⟩ rfl ?_ ?_
    · intro j v c τ u' h tk I o hv hP hne F' N'
      clear lF lN
      obtain ⟨r0, tkr, hr, rfl⟩ := hvs.get hv
      have hI1 := neN (hne _ (.head _))
      dsimp only [kstB, psT] at F' N' hI1
      have hrl : r0.length ≤ 1000000 := Nat.le_trans (mem_lines_le (List.mem_of_getElem? hr)) hel
      have hcl : c.length ≤ 1000001 := by rw [hP]; exact Nat.le_trans (len_dec_lines e j) (by omega)
      have hlast : (((linesNL e).take (j + 1)).flatMap decLine) = c ++ decLine r0 := by
        rw [List.take_add_one, hr, List.flatMap_append, ← hP]
        show c ++ (decLine r0 ++ []) = _
        rw [List.append_nil]
      generalize τ 0 = tS at F'
      k_steps
      · rename_i kS t1 k1 hkS hkl h2 hk0 t2 k2 hW lF lN
        dsimp only [TokPost]
        refine tok_end (c ++ [10]) lF lN (.head _) (fun p hp => .tail _ hp) (fun p hp => by
          rw [List.mem_singleton.mp hp]; exact hI1) ⟨⟨_, rfl⟩, trivial⟩ (fun z g1 g2 g3 => by have g2 := g2.1; simp [g1, g2]; intro g4; simp [g4] at g3) ?_
        rw [hlast, show decLine r0 = [10] by unfold decLine; rw [← hkS, if_pos hk0]]
      · rename_i kS t1 k1 hkS hkl h2 hk0 tk3 h1 hW lF lN
        have lF2 : ∃ t4 t5 t6, Fr s.heap L' hW (fun y => if y = Str.ofString "n" then some (.int (kS.length : Int) t4) else if y = Str.ofString "i" then some (.int 0 t5) else if y = Str.ofString "line" then some (.str (S kS) t1) else if y = Str.ofString "line" then some (Value.str (S r0) tkr) else if y = Str.ofString "decoded" then some (.str (S c) tS) else if [Str.ofString "i", Str.ofString "n", Str.ofString "c"].contains y = true then u' y else if y = Str.ofString "decoded" then some (Value.str (Str.ofString "") t6) else List.lookup y [(Str.ofString "encoded", Value.str (S e) te), (Str.ofString "eol", Value.str (Str.ofString "\n") 189)].reverse) := ⟨_, _, _, lF⟩
        clear lF
        obtain ⟨t4, t5, t6, lF⟩ := lF2
        have hdl : decLine r0 = decW kS := by unfold decLine; rw [← hkS, if_neg hk0]
        have hll := len_decW _ kS (Nat.le_refl _)
        refine Halt.to ?_
        refine while_tok (σ := Int × List Nat) (fun c => [(I, o), (dA, listOf vs.toArray 0)]) (fun c => [(Str.ofString "i", .int c.1), (Str.ofString "decoded", .str (S c.2))]) [Str.ofString "c"] (fun q => 0 ≤ q.1 ∧ q.1 ≤ kS.length ∧ q.2 ++ decW (kS.drop q.1.toNat) = c ++ decW kS) (fun q => kS.length - q.1.toNat) (0, c) lF lN ⟨⟨_, rfl⟩, ⟨_, rfl⟩, trivial⟩ ⟨Int.le_refl 0, by dsimp only; omega, rfl⟩ ?_
        clear lF lN
        intro q τ2 u2 hh tk2 hQ F2 N2
        obtain ⟨i, d⟩ := q
        obtain ⟨q1, q2, q3⟩ := hQ
        dsimp only at q1 q2 q3
        dsimp only [kstB, psT] at F2 N2
        have hdlen : d.length ≤ 2000002 := by
          have := congrArg List.length q3
          rw [List.length_append, List.length_append] at this
          omega
        generalize τ2 0 = tI at F2
        generalize τ2 (0 + 1) = tD at F2
        k_with "unq" => rw [slice3 (by assumption) (by assumption) (by assumption)]
        k_with "hex" => (rw [← hex_mem]; exact decide_eq_true (by assumption))
        k_steps
        all_goals (rename Fr _ _ _ _ => lF; rename News _ _ _ _ => lN)
        all_goals (first | dsimp only [WTokPost] | dsimp only [TokPost])
        rotate_right 1
        · refine tok_end d lF lN (.head _) (fun p hp => .tail _ hp) (fun p hp => by
            rw [List.mem_singleton.mp hp]; exact hI1) ⟨⟨_, rfl⟩, trivial⟩ (fun z g1 g2 g3 => by
              have g2 := g2.1
              obtain ⟨a1, a2, a3⟩ := off3 g3
              simp [g1, g2, a1, a2, a3]) ?_
          rw [hlast, hdl, ← q3, List.drop_eq_nil_of_le (by omega)]
          simp [decW]
        all_goals (first
          | (exfalso; omega)
          | (refine wtok_end (_, _) lF lN (fun p hp => hp) ⟨⟨_, rfl⟩, ⟨_, rfl⟩, trivial⟩ (fun z g2 g3 => by
              have g4 := g2.2.1
              have g2 := g2.1
              have g5 := off1 g3
              simp [g2, g4, g5]) ⟨by dsimp only; omega, by dsimp only; omega, ?_⟩ (by dsimp only; omega)
             rw [← q3]
             first
               | exact q_plain_end q1 (by assumption) (by assumption) (by omega)
               | exact q_plain q1 (by assumption) (by assumption) (by omega)
               | exact q_last q1 (by assumption) (by omega)
               | exact q_hex_end q1 (by assumption) (by assumption) (by assumption) (by assumption) (by omega)
               | exact q_hex q1 (by assumption) (by assumption) (by assumption) (by assumption) (by omega)
               | exact q_else q1 (by assumption) (by omega) (fun q => by omega)
               | exact q_else q1 (by assumption) (by omega) (fun q => absurd q.2.1 (by assumption))
               | exact q_else q1 (by assumption) (by omega) (fun q => absurd q.2.2 (by assumption))))
    · intro c τ u' h tk hP F' N'
      clear lF lN
      dsimp only [kstB, psT] at F' hP N'
      rw [hvs.length, List.take_length] at hP
      have hcl : c.length ≤ 1000001 := by
        have := len_dec_lines e (linesNL e).length
        rw [List.take_length] at this
        rw [hP]; omega
      have hne : ¬ e = [] := by assumption
      have hdl : decL e = endStrip e c := by unfold decL; rw [if_neg hne, hP]
      generalize τ 0 = tS at F'
      k_with "neg" => exact pos_last (by assumption)
      k_steps
      all_goals (rename Fr _ _ _ _ => lF; dsimp only; refine hret _ _ _ (fun b o e => lF.keep b o e) ?_; show ∃ t, _ = Value.str (S (decL e)) t; rw [hdl])
      all_goals (first
        | (have e1 : Txt.slice (S c) none (some (-(([10] : List Nat).length : Int))) = S c.dropLast := slice_n1 (pos_last (by assumption))
           rw [endStrip_yes hne (by assumption) (by assumption), ← e1]
           exact ⟨_, rfl⟩)
        | (rw [endStrip_no1 hne (by assumption)]; exact ⟨_, rfl⟩)
        | (rw [endStrip_no2 (by assumption)]; exact ⟨_, rfl⟩))
end Mine
end
section
open PySem PySem.W PySem.Spec PySem.Calls PyProof.Rows PyProof.V
set_option Elab.async false
namespace Mine
theorem fresh_MLet : True := by
  w_top off
  trivial
set_option maxRecDepth 100000
set_option maxHeartbeats 4000000
theorem lit_ddn : Str.ofString "--\n" = S [45, 45, 10] := by decide +kernel
local macro_rules | `(tactic| walk_at "exec For Name Call cons nil") => `(tactic| (k_here; (try k_fold); (rename Fr _ _ _ _ => lF'); (with_unfolding_all refine' For_halt lF' ?k1 ?k2 ?_; (case k1 => exact rfl); (case k2 => exact rfl); k_whole)))
local macro_rules | `(tactic| walk_at "MINE str") => `(tactic| first | with_reducible exact lit_nl | with_reducible exact lit_e | with_reducible exact lit_eq | with_reducible exact lit_bl | with_reducible exact lit_dd | with_reducible exact lit_ddn | with_reducible exact lit_eu | with_reducible exact lit_hex | with_reducible exact lit_crlf | k_extra "lit" | with_reducible exact rfl)
local macro_rules | `(tactic| walk_at "MINE size") => `(tactic| first | omega | (simp only [List.length_append, List.length_cons, List.length_nil, List.length_take, List.length_drop, List.length_dropLast]; omega) | k_extra "size")
local macro_rules | `(tactic| walk_at "inplaceOp Add str str") => `(tactic| (refine' iaddS ?hx ?hy ?hs ?_; (case hx => walk_at "MINE str"); (case hy => walk_at "MINE str"); (case hs => walk_at "MINE size"); intro _ _))
local macro_rules | `(tactic| walk_at "binaryOp Add str str") => `(tactic| (refine' addS ?hx ?hy ?hs ?_; (case hx => walk_at "MINE str"); (case hy => walk_at "MINE str"); (case hs => walk_at "MINE size"); intro _ _))
local macro_rules | `(tactic| walk_at "truthy str") => `(tactic| (refine' truthyS ?hx ?hs ?_; (case hx => walk_at "MINE str"); (case hs => walk_at "MINE size")))
local macro_rules | `(tactic| walk_at "compareOp Eq str str") => `(tactic| (refine' eqS ?hx ?hy ?_; (case hx => walk_at "MINE str"); (case hy => walk_at "MINE str")))
local macro_rules | `(tactic| walk_at "exec For Name Name cons nil") => `(tactic| (k_here; (try k_fold); (rename Fr _ _ _ _ => lF'); (with_unfolding_all refine' For_halt lF' ?k1 ?k2 ?_; (case k1 => exact rfl); (case k2 => exact rfl); k_whole)))
local macro_rules | `(tactic| walk_at "compareOp In str str") => `(tactic| (refine' in2S ?hx ?hy ?hl ?_; (case hx => walk_at "MINE str"); (case hy => walk_at "MINE str"); (case hl => k_extra "noeu")))
local macro_rules | `(tactic| walk_at "call ref") => `(tactic| (k_here; (with_reducible show wpAny _ _ (call (Value.ref 57) [_, _]) _ _ _); (refine' pcallN (enc_c _ _ _ _ _ _ _ _ _ _ ?e1 ?e2 ?e3 ?e4) ?k1 ?k2 ?k3 ?k4 ?k5 ?kK trivial ?kd ?ku ?_; (case e1 => assumption); (case e2 => assumption); (case e3 => assumption); (case e4 => assumption); (case k1 => k_asm); (case k2 => k_asm); (case k3 => k_asm); (case k4 => k_asm); (case k5 => k_asm); (case kK => exact rfl); (case kd => ktr_room); (case ku => ktr_units)); intro v9 h9 tk9 x9 F9 N9 b9; obtain ⟨t9, e9⟩ := b9; subst e9; clear x9; (try dsimp only); (try k_fold)))

def pieceR (mark : List Nat) (n : Nat) (p : List Nat) : List Nat := mark ++ 10 :: (encL n p ++ [10])
theorem len_pieces_all (mark : List Nat) (n : Nat) (hm : mark.length ≤ 10) : ∀ ps : List (List Nat), (∀ p ∈ ps, p.length ≤ 100000) → (ps.flatMap (pieceR mark n)).length ≤ 1600000 * ps.length
  | [], _ => by simp
  | p :: r, h => by
    have h1 := len_encL n p
    have h2 := h p (.head _)
    have h3 := len_pieces_all mark n hm r fun q hq => h q (.tail _ hq)
    have h4 : (pieceR mark n p).length ≤ 1600000 := by
      unfold pieceR
      simp only [List.length_append, List.length_cons, List.length_nil]
      omega
    rw [List.flatMap_cons, List.length_append, List.length_cons]
    omega
theorem letter_c (w : World) (p : Program) (loose : List Str) (mean : ExcName → Option Value) (mg mb : Str → Option Value) (l : Addr) (vs : List Value) (parts : List (List Nat)) (mark : List Nat) (n : Nat) (tm tn : Tok)
    (hp : ∀ q ∈ parts, textC q) (hpl : ∀ q ∈ parts, q.length ≤ 100000) (hpn : parts.length ≤ 3) (hm : mark.length ≤ 10) (hn : 4 ≤ n) (hn2 : n ≤ 1000) :
    PClaim PySem.Challenge.rw_dm5004_01.row.prog w (hd.heap_39 w.params) p loose mean mg mb 5 81 (fun h => h.IsList l vs.toArray ∧ StrL vs parts) [.ref l, .str (S mark) tm, .int (n : Int) tn] (backS (letterL parts mark n)) := by
  k_fill
  intro dp un gd cn cs a ccd cl outer A₀ base h₀ L m s Q E B F X T hk hneed hd hun hret
  refine wpAny_call ?_
  k_dflt (refine' code_pure (binds := [(Str.ofString "parts", .ref l), (Str.ofString "mark", .str (S mark) tm), (Str.ofString "length", .int (n : Int) tn)]) ?k1 ?k2 ?k3 ?k5 ?kA ?kF ?kK ?k6 ?k7 ?k8 ?k9 ?kB ?_ ?c2 ?c3 ?c4 ?c5; (case kA => exact rfl); (case kF => exact rfl); (case kK => assumption); (case k1 => k_asm); (case k2 => k_asm); (case k3 => k_asm); (case k5 => k_asm); (case k6 => k_is); (case k7 => k_is); (case k8 => ktr_room); (case k9 => first | exact BindsTo.of_eq rfl | exact binds_K (by k_in) rfl (by k_is) rfl rfl rfl); (case c5 => decide); (case kB => exact locs rfl); (case c2 => exact rfl); (case c3 => exact rfl); (case c4 => exact rfl); k_whole)
  intro g L' h₁ hg F' N' B' X' T'
  subst hg
  obtain ⟨hl, hvs⟩ := hneed
  obtain ⟨lo, hlo, hcl, hdat⟩ := hl
  (try dsimp only)
  k_fold
  k_with_none
  k_steps
  rename Fr _ _ _ _ => lF
  rename News _ _ _ _ => lN
  refine Halt.to ?_
  refine for_tok (σ := List Nat) (l := l) (vs := vs) (lo := lo) (fun _ => []) (fun c => [(Str.ofString "letter", .str (S c))]) [Str.ofString "written"] (fun i c => c = ((parts.take i).flatMap (pieceR mark n))) [] rfl hcl hdat (.inl hlo) lF lN ⟨⟨_, by rw [← lit_e]; rfl⟩, trivial⟩ rfl ?_ ?_
  · intro j v c τ u' h tk I o hv hP hne F' N'
    clear lF lN
    obtain ⟨r0, tkr, hr, rfl⟩ := hvs.get hv
    dsimp only [kstB, psT] at F' N'
    have hmem := List.mem_of_getElem? hr
    have hrt := hp r0 hmem
    have hrl := hpl r0 hmem
    have hel := len_encL n r0
    have hcl2 : c.length ≤ 4800000 := by
      have := len_pieces_all mark n hm (parts.take j) fun q hq => hpl q (List.mem_of_mem_take hq)
      rw [← hP, List.length_take] at this
      omega
    generalize τ 0 = tS at F'
    k_with "noeu" => exact encL_noEU hn hrt
    k_steps
    dsimp only [TokPost]
    rename Fr _ _ _ _ => lF
    rename News _ _ _ _ => lN
    refine tok_end (c ++ (mark ++ [10] ++ encL n r0 ++ [10])) lF lN (.head _) (fun q hq => nomatch hq) (fun q hq => nomatch hq) ⟨⟨_, rfl⟩, trivial⟩ (fun z g1 g2 g3 => by
      have g2 := g2.1
      have g4 := off1 g3
      simp [g1, g2, g4]) ?_
    rw [List.take_add_one, hr, List.flatMap_append, ← hP]
    show _ = c ++ (pieceR mark n r0 ++ [])
    simp [pieceR]
  · intro c τ u' h tk hP F' N'
    clear lF lN
    dsimp only [kstB, psT] at F' hP N'
    rw [hvs.length, List.take_length] at hP
    have hcl2 : c.length ≤ 4800000 := by
      have := len_pieces_all mark n hm parts hpl
      rw [← hP] at this
      omega
    generalize τ 0 = tS at F'
    k_steps
    rename Fr _ _ _ _ => lF
    dsimp only
    refine hret _ _ _ (fun b o e => lF.keep b o e) ?_
    rw [show letterL parts mark n = c ++ mark ++ [45, 45, 10] by rw [hP]; unfold letterL; rw [List.append_assoc]; rfl]
    exact ⟨_, rfl⟩
end Mine
end
section
open PySem PySem.W PySem.Spec PySem.Calls PyProof.Rows PyProof.V
set_option Elab.async false
namespace Mine
set_option maxRecDepth 100000
set_option maxHeartbeats 4000000
def wsum (ls : List (List Nat)) : Nat := (ls.map fun l => l.length + 1).sum
theorem wsum_nil : wsum [] = 0 := rfl
theorem wsum_snoc (ls : List (List Nat)) (r : List Nat) : wsum (ls ++ [r]) = wsum ls + (r.length + 1) := by
  unfold wsum; simp
theorem wsum_join (ls : List (List Nat)) : (joinNL ls).length + 1 ≤ wsum ls + 1 := by
  by_cases h : ls = []
  · subst h; simp [joinNL, wsum]
  · have := len_joinNL h
    unfold wsum; omega
theorem wsum_len (ls : List (List Nat)) : ls.length ≤ wsum ls := by
  induction ls with
  | nil => simp [wsum]
  | cons a b ih => unfold wsum at ih ⊢; rw [List.map_cons, List.sum_cons, List.length_cons]; omega
def cutW (st : CutSt) : Nat := wsum st.1 + match st.2 with | none => 0 | some r => wsum r
theorem cutW_step (mark : List Nat) (st : CutSt) (row : List Nat) : cutW (cutStep mark st row) ≤ cutW st + (row.length + 1) := by
  obtain ⟨ps, rs⟩ := st
  unfold cutStep
  split
  · cases rs with
    | none => simp [cutW, wsum_nil]
    | some r =>
      show wsum (ps ++ [joinNL r]) + 0 ≤ wsum ps + wsum r + (row.length + 1)
      rw [wsum_snoc]
      have := wsum_join r
      omega
  · cases rs with
    | none => simp [cutW]
    | some r =>
      show wsum ps + wsum (r ++ [row]) ≤ wsum ps + wsum r + (row.length + 1)
      rw [wsum_snoc]; omega
theorem cutW_fold (mark : List Nat) : ∀ (rows : List (List Nat)) (st : CutSt), cutW (rows.foldl (cutStep mark) st) ≤ cutW st + wsum rows
  | [], st => by simp
  | r :: t, st => by
    have h1 := cutW_step mark st r
    have h2 := cutW_fold mark t (cutStep mark st r)
    rw [List.foldl_cons]
    have : wsum (r :: t) = r.length + 1 + wsum t := by unfold wsum; rw [List.map_cons, List.sum_cons]
    omega
theorem wsum_take : ∀ (ls : List (List Nat)) (i : Nat), wsum (ls.take i) ≤ wsum ls
  | [], i => by simp
  | a :: r, 0 => by simp [wsum]
  | a :: r, i + 1 => by
    have := wsum_take r i
    unfold wsum at this ⊢
    rw [List.take_succ_cons, List.map_cons, List.sum_cons, List.map_cons, List.sum_cons]
    omega
theorem cutW_take (mark l : List Nat) (i : Nat) : cutW (((splitNL l).take i).foldl (cutStep mark) ([], none)) ≤ l.length + 1 := by
  have h1 := cutW_fold mark ((splitNL l).take i) ([], none)
  have h2 := wsum_take (splitNL l) i
  have h3 := len_split l
  have : cutW ([], none) = 0 := rfl
  unfold wsum at h2
  unfold wsum at h1
  omega
theorem cut_next {mark l : List Nat} {i : Nat} {row : List Nat} (hr : (splitNL l)[i]? = some row) : ((splitNL l).take (i + 1)).foldl (cutStep mark) ([], none) = cutStep mark (((splitNL l).take i).foldl (cutStep mark) ([], none)) row := by
  rw [List.take_add_one, hr, List.foldl_append]; rfl
theorem mem_split_le {r t : List Nat} (h : r ∈ splitNL t) : r.length ≤ t.length := by
  have h1 := len_split t
  have key : ∀ ls : List (List Nat), r ∈ ls → r.length + 1 ≤ (ls.map fun l => l.length + 1).sum := by
    intro ls
    induction ls with
    | nil => intro h; cases h
    | cons a b ih =>
      intro h
      rw [List.map_cons, List.sum_cons]
      rcases List.mem_cons.mp h with rfl | h
      · omega
      · have := ih h; omega
  have := key _ h
  omega
end Mine
end
section
open PySem PySem.W PySem.Spec PySem.Calls PyProof.Rows PyProof.V
set_option Elab.async false
namespace Mine
theorem fresh_MCut : True := by
  w_top off
  trivial
set_option maxRecDepth 100000
set_option maxHeartbeats 4000000
local macro_rules | `(tactic| walk_at "exec For Name Call cons nil") => `(tactic| (k_here; (try k_fold); (rename Fr _ _ _ _ => lF'); (with_unfolding_all refine' For_halt lF' ?k1 ?k2 ?_; (case k1 => exact rfl); (case k2 => exact rfl); k_whole)))
local macro_rules | `(tactic| walk_at "MINE str") => `(tactic| first | with_reducible exact lit_nl | with_reducible exact lit_e | with_reducible exact lit_eq | with_reducible exact lit_bl | with_reducible exact lit_dd | with_reducible exact lit_eu | with_reducible exact lit_hex | with_reducible exact lit_crlf | k_extra "lit" | with_reducible exact rfl)
local macro_rules | `(tactic| walk_at "MINE size") => `(tactic| first | omega | (simp only [List.length_append, List.length_cons, List.length_nil, List.length_take, List.length_drop, List.length_dropLast]; omega) | k_extra "size")
local macro_rules | `(tactic| walk_at "inplaceOp Add str str") => `(tactic| (refine' iaddS ?hx ?hy ?hs ?_; (case hx => walk_at "MINE str"); (case hy => walk_at "MINE str"); (case hs => walk_at "MINE size"); intro _ _))
local macro_rules | `(tactic| walk_at "binaryOp Add str str") => `(tactic| (refine' addS ?hx ?hy ?hs ?_; (case hx => walk_at "MINE str"); (case hy => walk_at "MINE str"); (case hs => walk_at "MINE size"); intro _ _))
local macro_rules | `(tactic| walk_at "truthy str") => `(tactic| (refine' truthyS ?hx ?hs ?_; (case hx => walk_at "MINE str"); (case hs => walk_at "MINE size")))
local macro_rules | `(tactic| walk_at "compareOp Eq str str") => `(tactic| (refine' eqS ?hx ?hy ?_; (case hx => walk_at "MINE str"); (case hy => walk_at "MINE str")))
local macro_rules | `(tactic| walk_at "call builtin:str.split") => `(tactic| (k_here; (refine' splitS ?k1 ?k2 ?hx ?hy ?hs ?_; (case k1 => k_asm); (case k2 => k_asm); (case hx => walk_at "MINE str"); (case hy => walk_at "MINE str"); (case hs => walk_at "MINE size")); intro D' vs' h' k' hv' F' N' l1; (try k_lt l1); (try k_sweep)))
local macro_rules | `(tactic| walk_at "call builtin:str.join") => `(tactic| (k_here; k_extra "join"))

local macro_rules | `(tactic| walk_at "call builtin:list.append") => `(tactic| (k_here; (with_reducible show wpAny _ _ (call (Value.builtin _) [Value.ref _, _]) _ _ _); k_dflt (refine' append_K ?k1 ?k2 ?k3 ?_ ?z; (case k1 => k_asm); (case k2 => k_asm); (case k3 => k_upd); (case z => rw [PySem.sizeLine_eq]; assumption); k_whole); intro h' F' N'; (try k_sweep)))
local macro_rules | `(tactic| walk_at "MINE mem") => `(tactic| first | exact .head _ | exact .tail _ (.head _) | exact .tail _ (.tail _ (.head _)) | exact .tail _ (.tail _ (.tail _ (.head _))) | exact .tail _ (.tail _ (.tail _ (.tail _ (.head _)))))
def RowsIs (dA pA : Addr) : Option (Addr × List Value × Nat) → Option (List (List Nat)) → Prop
  | none, none => True
  | some (rA, wr, _), some lr => StrL wr lr ∧ dA < rA ∧ pA < rA
  | _, _ => False
def rowsLed : Option (Addr × List Value × Nat) → List (Addr × Obj)
  | none => []
  | some (rA, wr, kr) => [(rA, listOf wr.toArray kr)]
def rowsV : Option (Addr × List Value × Nat) → Value
  | none => .none
  | some (rA, _, _) => .ref rA
theorem cut_c (w : World) (p : Program) (loose : List Str) (mean : ExcName → Option Value) (mg mb : Str → Option Value) (e mark : List Nat) (te tm : Tok) (hel : e.length ≤ 10000000) (hm : mark.length ≤ 10) :
    PClaim PySem.Challenge.rw_dm5004_01.row.prog w (hd.heap_39 w.params) p loose mean mg mb 3 88 (fun _ => True) [.str (S e) te, .str (S mark) tm] (fun h h' v => ∃ D vs k, v = .ref D ∧ h.get? D = none ∧ h'.get? D = some (listOf vs.toArray k) ∧ StrL vs (cutL e mark)) := by
  k_fill
  intro dp un gd cn cs a ccd cl outer A₀ base h₀ L m s Q E B F X T hk hneed hd hun hret
  refine wpAny_call ?_
  k_dflt (refine' code_pure (binds := [(Str.ofString "letter", .str (S e) te), (Str.ofString "mark", .str (S mark) tm)]) ?k1 ?k2 ?k3 ?k5 ?kA ?kF ?kK ?k6 ?k7 ?k8 ?k9 ?kB ?_ ?c2 ?c3 ?c4 ?c5; (case kA => exact rfl); (case kF => exact rfl); (case kK => assumption); (case k1 => k_asm); (case k2 => k_asm); (case k3 => k_asm); (case k5 => k_asm); (case k6 => k_is); (case k7 => k_is); (case k8 => ktr_room); (case k9 => first | exact BindsTo.of_eq rfl | exact binds_K (by k_in) rfl (by k_is) rfl rfl rfl); (case c5 => decide); (case kB => exact locs rfl); (case c2 => exact rfl); (case c3 => exact rfl); (case c4 => exact rfl); k_whole)
  intro g L' h₁ hg F' N' B' X' T'
  subst hg
  (try dsimp only)
  k_fold
  k_with_none
  k_steps
  rename_i pA h3 l12 h2 h1 dA vs h' k' hvs lF lN l1
  refine Halt.to ?_
  refine for_tok (σ := (List Value × Nat) × Option (Addr × List Value × Nat)) (l := dA) (vs := vs) (lo := listOf vs.toArray 0) (fun c => (dA, listOf vs.toArray 0) :: (pA, listOf c.1.1.toArray c.1.2) :: rowsLed c.2) (fun c => [(Str.ofString "rows", fun _ => rowsV c.2)]) [] (fun i c => StrL c.1.1 (((splitNL e).take i).foldl (cutStep mark) ([], none)).1 ∧ RowsIs dA pA c.2 (((splitNL e).take i).foldl (cutStep mark) ([], none)).2) (([], 0), none) rfl rfl ⟨0, rfl⟩ (.inr fun c => .head _) lF lN ⟨⟨0, rfl⟩, trivial⟩ ⟨StrL.nil, trivial⟩ ?_ ?_
  · intro j v c τ u' h tk I o hv hP hne F' N'
    clear lF lN
    obtain ⟨⟨ws, kw⟩, rs⟩ := c
    obtain ⟨r0, tkr, hr, rfl⟩ := hvs.get hv
    obtain ⟨hP1, hP2⟩ := hP
    have hI1 := neN (hne _ (.head _))
    have hI2 := neN (hne _ (.tail _ (.head _)))
    have hw := cutW_take mark e j
    have hnx := cut_next (mark := mark) hr
    have hrl := mem_split_le (List.mem_of_getElem? hr)
    generalize ((splitNL e).take j).foldl (cutStep mark) ([], none) = st at hP1 hP2 hw hnx
    obtain ⟨lp, lr⟩ := st
    dsimp only at hP1 hP2
    have hwl : wsum lp ≤ e.length + 1 := by unfold cutW at hw; dsimp only at hw; omega
    have hws : ws.toArray.size ≤ 16777216 := by
      have := hP1.length
      have := wsum_len lp
      rw [List.size_toArray]; omega
    rcases rs with _ | ⟨rA, wr, kr⟩ <;> rcases lr with _ | lr <;> simp only [RowsIs] at hP2
    · dsimp only [kstB, psT, rowsV, rowsLed] at F' N' hI1 hI2
      k_with "size" => assumption
      k_steps
      all_goals (dsimp only [TokPost]; rename Fr _ _ _ _ => lF; rename News _ _ _ _ => lN)
      rotate_right 1
      · refine tok_end ((ws, kw), none) lF lN (.head _) (fun p hp => .tail _ hp) (fun p hp => by
          simp only [rowsLed, List.mem_cons, List.not_mem_nil, or_false] at hp
          rcases hp with rfl | rfl
          · exact hI1
          · exact hI2) ⟨⟨0, rfl⟩, trivial⟩ (fun z g1 g2 _ => by have g2 := g2.1; simp [g1, g2]) ?_
        rw [hnx, show cutStep mark (lp, none) r0 = (lp, none) by unfold cutStep; rw [if_neg (fun q => q.elim (by assumption) (by assumption))]; rfl]
        exact ⟨hP1, trivial⟩
      all_goals (
        obtain ⟨b1, b2, b3⟩ := ‹I < _ ∧ dA < _ ∧ pA < _›
        refine tok_end ((ws, kw), some (_, [], 0)) lF lN (by walk_at "MINE mem") (fun p hp => by
          simp only [rowsLed, List.mem_cons, List.not_mem_nil, or_false] at hp
          rcases hp with rfl | rfl | rfl <;> walk_at "MINE mem") (fun p hp => by
          simp only [rowsLed, List.mem_cons, List.not_mem_nil, or_false] at hp
          rcases hp with rfl | rfl | rfl
          · exact hI1
          · exact hI2
          · exact Nat.ne_of_gt b1) ⟨⟨0, rfl⟩, trivial⟩ (fun z g1 g2 _ => by have g2 := g2.1; simp [g1, g2]) ?_
        rw [hnx, show cutStep mark (lp, none) r0 = (lp, some []) by
          unfold cutStep
          first
            | rw [if_pos (.inl (by assumption))]
            | rw [if_pos (.inr (by assumption))]]
        exact ⟨hP1, StrL.nil, b2, b3⟩)
    · obtain ⟨hR1, hR2, hR3⟩ := hP2
      have hR2 := ltN hR2
      have hR3 := ltN hR3
      have hI3 := neN (hne _ (.tail _ (.tail _ (.head _))))
      dsimp only [kstB, psT, rowsV, rowsLed] at F' N' hI1 hI2 hI3
      have hwr : wsum lr ≤ e.length + 1 := by unfold cutW at hw; dsimp only at hw; omega
      have hwrs : wr.toArray.size ≤ 16777216 := by
        have := hR1.length
        have := wsum_len lr
        rw [List.size_toArray]; omega
      k_with "size" => assumption
      k_with "join" => (
        rename News _ _ _ _ => jN
        refine' joinS (D := rA) (vs := wr) (ls := lr) ⟨_, (jN _ (.tail _ (.tail _ (.tail _ (.head _))))).1, rfl, ⟨_, rfl⟩⟩ hR1 lit_nl (by unfold wsum at hwr; omega) ?_
        intro _ _)
      k_steps
      all_goals (dsimp only [TokPost]; rename Fr _ _ _ _ => lF; rename News _ _ _ _ => lN; (try simp only [List.push_toArray] at lN))
      rotate_right 1
      · refine tok_end ((ws, kw), some (rA, wr ++ [_], kr + 1)) lF lN (.head _) (fun p hp => .tail _ hp) (fun p hp => by
          simp only [rowsLed, List.mem_cons, List.not_mem_nil, or_false] at hp
          rcases hp with rfl | rfl | rfl
          · exact hI1
          · exact hI2
          · exact hI3) ⟨⟨0, rfl⟩, trivial⟩ (fun z g1 g2 _ => by have g2 := g2.1; simp [g1, g2]) ?_
        rw [hnx, show cutStep mark (lp, some lr) r0 = (lp, some (lr ++ [r0])) by unfold cutStep; rw [if_neg (fun q => q.elim (by assumption) (by assumption))]; rfl]
        exact ⟨hP1, hR1.snoc _ _, hR2, hR3⟩
      all_goals (
        obtain ⟨b1, b2, b3, b4⟩ := ‹I < _ ∧ dA < _ ∧ pA < _ ∧ rA < _›
        refine tok_end ((ws ++ [_], kw + 1), some (_, [], 0)) lF lN (by walk_at "MINE mem") (fun p hp => by
          simp only [rowsLed, List.mem_cons, List.not_mem_nil, or_false] at hp
          rcases hp with rfl | rfl | rfl <;> walk_at "MINE mem") (fun p hp => by
          simp only [rowsLed, List.mem_cons, List.not_mem_nil, or_false] at hp
          rcases hp with rfl | rfl | rfl
          · exact hI1
          · exact hI2
          · exact Nat.ne_of_gt b1) ⟨⟨0, rfl⟩, trivial⟩ (fun z g1 g2 _ => by have g2 := g2.1; simp [g1, g2]) ?_
        rw [hnx, show cutStep mark (lp, some lr) r0 = (lp ++ [joinNL lr], some []) by
          unfold cutStep
          first
            | rw [if_pos (.inl (by assumption))]
            | rw [if_pos (.inr (by assumption))]]
        exact ⟨hP1.snoc _ _, StrL.nil, b2, b3⟩)
  · intro c τ u' h tk hP F' N'
    clear lF lN
    obtain ⟨⟨ws, kw⟩, rs⟩ := c
    dsimp only [kstB, psT] at F' hP N'
    rw [hvs.length, List.take_length] at hP
    k_steps
    rename Fr _ _ _ _ => lF
    rename News _ _ _ _ => lN
    dsimp only
    exact hret _ _ _ (fun b o e => lF.keep b o e) ⟨pA, ws, kw, rfl, (lN _ (.tail _ (.head _))).2.2, (lN _ (.tail _ (.head _))).1, hP.1⟩
end Mine
end
section
set_option Elab.async false
namespace Mine
set_option maxRecDepth 100000
theorem pieces_textC (k : Nat) : textC (piecesL.getD k []) := by
  have : ∀ p ∈ piecesL, ∀ c ∈ p, c < 256 ∧ c ≠ 13 := by decide
  rw [List.getD_eq_getElem?_getD]
  cases h : piecesL[k]? with
  | none => intro c hc; cases hc
  | some p => exact this p (List.mem_of_getElem? h)
theorem piece_textC (x : Int) : textC (pieceL x) := by
  unfold pieceL
  split
  · exact pieces_textC _
  · split
    · intro c hc; rw [List.mem_singleton] at hc; omega
    · intro c hc; rw [List.mem_singleton] at hc; omega
theorem text_textC (ns : List Int) : textC (textL ns) := by
  intro c hc
  obtain ⟨x, _, hm⟩ := List.mem_flatMap.mp hc
  exact piece_textC x c hm
theorem textC_append {a b : List Nat} (ha : textC a) (hb : textC b) : textC (a ++ b) := fun c hc => by
  rcases List.mem_append.mp hc with h | h
  · exact ha c h
  · exact hb c h
def marksL : List (List Nat) := [[45,45,61,95], [45,45,61,95,97], [45,45,61,95,61,95], [45,45,120,61,95,55]]
def MarkOk (m : List Nat) : Prop := textC m ∧ (∃ a b, m = a ++ 61 :: 95 :: b) ∧ 10 ∉ m ∧ m.length ≤ 6
theorem marks_ok (k : Nat) (h : k < 4) : MarkOk (marksL.getD k []) := by
  match k, h with
  | 0, _ => exact ⟨by intro c hc; revert c; decide, ⟨[45,45], [], rfl⟩, by decide, by decide⟩
  | 1, _ => exact ⟨by intro c hc; revert c; decide, ⟨[45,45], [97], rfl⟩, by decide, by decide⟩
  | 2, _ => exact ⟨by intro c hc; revert c; decide, ⟨[45,45], [61,95], rfl⟩, by decide, by decide⟩
  | 3, _ => exact ⟨by intro c hc; revert c; decide, ⟨[45,45,120], [55], rfl⟩, by decide, by decide⟩
section
variable {n : Nat} (hn : 4 ≤ n) {mark : List Nat} (hm : MarkOk mark) {u v : List Nat} (hu : textC u) (hv : textC v)
include hn hm hu hv
theorem letter_textC : textC (letterL [u, v, []] mark n) := by
  have t10 : textC [10] := by intro c hc; rw [List.mem_singleton] at hc; omega
  have t3 : textC [45, 45, 10] := by intro c hc; revert c; decide
  have piece : ∀ p, textC p → textC (mark ++ 10 :: (encL n p ++ [10])) := by
    intro p hp
    have : mark ++ 10 :: (encL n p ++ [10]) = mark ++ ([10] ++ (encL n p ++ [10])) := rfl
    rw [this]
    exact textC_append hm.1 (textC_append t10 (textC_append (okC_textC (encL_ok hn hp)) t10))
  have t0 : textC [] := fun c hc => nomatch hc
  unfold letterL
  simp only [List.flatMap_cons, List.flatMap_nil]
  exact textC_append (textC_append (piece u hu) (textC_append (piece v hv) (textC_append (piece [] t0) t0))) (textC_append hm.1 t3)
theorem letter_cut : cutL (letterL [u, v, []] mark n) mark = [encL n u, encL n v, []] := by
  obtain ⟨a, b, e⟩ := hm.2.1
  have h10 := hm.2.2.1
  have t0 : textC [] := fun c hc => nomatch hc
  rw [e] at h10 ⊢
  rw [cut_letter hn h10 [u, v, []] (by
    intro p hp
    simp only [List.mem_cons, List.not_mem_nil, or_false] at hp
    rcases hp with rfl | rfl | rfl
    · exact hu
    · exact hv
    · exact t0)]
  simp only [List.map_cons, List.map_nil]
  have : encL n [] = [] := by
    have e : rowsOf n [] = [finRow n []] := by rw [rowsOf, dif_neg (by simp)]
    show joinNL ((rowsOf n []) ++ []) = []
    rw [e]; rfl
  rw [this]
end
theorem letter_len {n : Nat} {mark u v : List Nat} (hm : mark.length ≤ 6) : (letterL [u, v, []] mark n).length ≤ 15 * u.length + 15 * v.length + 60 := by
  have h1 := len_encL n u
  have h2 := len_encL n v
  have h3 := len_encL n []
  unfold letterL
  simp only [List.flatMap_cons, List.flatMap_nil, List.length_append, List.length_cons, List.length_nil] at *
  omega
theorem letter_ne {n : Nat} {mark : List Nat} {ps : List (List Nat)} : ¬ letterL ps mark n = [] := by
  intro e
  have := congrArg List.length e
  unfold letterL at this
  simp at this
end Mine
end
section
open PySem PySem.W PySem.Spec PySem.Calls PyProof.Rows PyProof.V
set_option Elab.async false
namespace Mine
set_option maxRecDepth 100000
set_option maxHeartbeats 4000000
def strAt2 (l : List Value) (c : Nat) : Option Str := match l[c]? with
  | some (.str x _) => some x
  | _ => none
theorem strAt2_of {l : List Value} {c : Nat} {x : Str} (h : strAt2 l c = some x) : ∃ tk, l[c]? = some (.str x tk) := by
  unfold strAt2 at h
  split at h
  · rename_i y tk e; exact ⟨tk, by rw [e, Option.some.inj h]⟩
  · cases h
theorem marks_tab (P : Params) : ∃ l n dd sl, (hd.heap_39 P).lookup 66 = some ⟨.type "tuple", dd, .seq (List.toArray l) n, sl⟩ ∧ l.length = 4 ∧ ∀ c, c < 4 → strAt2 l c = some (S (marksL.getD c [])) := by
  refine ⟨_, _, _, _, rfl, rfl, ?_⟩
  decide +kernel
section
variable {prog : Program} {w : World} {A : Around} {E : Value → Shared → Prop} {s : Shared} {Q : Value → Shared → Prop} {h₀ : Heap} {L : Addr} {m : Str → Option Value} {news : List (Addr × Obj)} {value slice : PySem.Expr}
theorem marks_item {k : Int} {u : Tok} (F : Fr h₀ L s.heap m) (X : (hd.heap_39 w.params).In h₀) (h0 : 0 ≤ k) (h1 : k < 4) (h : ∀ t, Q (.str (S (marksL.getD k.toNat [])) t) s)
    (hs : subscripted slice false (.ref 66) (.int k u) = operate [.ref 66, .int k u] (getItem (.ref 66) (.int k u)) := by with_unfolding_all rfl) :
    wpAny (model prog w) A (subscriptTail value slice (.ref 66) (.int k u)) Q E s := by
  obtain ⟨l, n, dd, sl, e, hl, hx⟩ := marks_tab w.params
  obtain ⟨tk, ht⟩ := strAt2_of (hx k.toNat (by omega))
  refine topTup_K F X e (by omega) (by omega) (j := k.toNat) ?_ ht (h tk) hs
  rw [hl]
  exact seqIndex_of h0 (by omega)
theorem item_led {T : Addr} {l : List Value} {k0 : Nat} {i : Int} {u : Tok} {v : Value} (N : News h₀ L s.heap news) (hm : (T, listOf l.toArray k0) ∈ news) (h0 : 0 ≤ i) (h1 : i < 4) (hx : l[i.toNat]? = some v) (h : Q v s)
    (hs : subscripted slice false (.ref T) (.int i u) = operate [.ref T, .int i u] (getItem (.ref T) (.int i u)) := by with_unfolding_all rfl) (hg : ∀ r, letTemporaryGo value (.ref T) r = pure () := by intro _; with_unfolding_all rfl) :
    wpAny (model prog w) A (subscriptTail value slice (.ref T) (.int i u)) Q E s :=
  item_list ⟨_, (N _ hm).1, rfl, k0, rfl⟩ h0 (by omega) (by simpa using hx) h hs hg
theorem eqS_ne {x y : Str} {t u : Tok} {a : List Nat} (hx : x = S a) (hy : y = S []) (hne : ¬ a = []) (h : Q (.bool false) s) : wpAny (model prog w) A (compareOp .Eq (.str x t) (.str y u)) Q E s := by
  refine eqS hx hy ?_
  rw [decide_eq_false hne]; exact h
theorem neS_same {x y : Str} {t u : Tok} {a b : List Nat} (hx : x = S a) (hy : y = S b) (he : a = b) (h : Q (.bool false) s) : wpAny (model prog w) A (compareOp .NotEq (.str x t) (.str y u)) Q E s := by
  refine neS hx hy ?_
  rw [decide_eq_true he]; exact h
end
theorem strL3 {u v : List Nat} {tu tv t : Tok} : StrL [.str (S u) tu, .str (S v) tv, .str (Str.ofString "") t] [u, v, []] :=
  ⟨[(S u, tu), (S v, tv), (S [], t)], by rw [lit_e]; rfl, rfl⟩
theorem strL1 {u : List Nat} {tu : Tok} : StrL [.str (S u) tu] [u] := ⟨[(S u, tu)], rfl, rfl⟩
theorem strL3_inv {vs : List Value} {a b c : List Nat} (h : StrL vs [a, b, c]) : ∃ t1 t2 t3, vs = [.str (S a) t1, .str (S b) t2, .str (S c) t3] := by
  obtain ⟨ts, rfl, e⟩ := h
  rcases ts with _ | ⟨p, _ | ⟨q, _ | ⟨r, _ | ⟨z, ts⟩⟩⟩⟩
  · cases e
  · simp at e
  · simp at e
  · simp only [List.map_cons, List.map_nil, List.cons.injEq, and_true] at e
    obtain ⟨e1, e2, e3⟩ := e
    exact ⟨p.2, q.2, r.2, by rw [← e1, ← e2, ← e3]; rfl⟩
  · simp at e
theorem Ext.newsNone {h₀ h h' : Heap} {L D : Addr} {m : Str → Option Value} {o : Obj} {news : List (Addr × Obj)} (F : Fr h₀ L h m) (N : News h₀ L h news) (x : Ext h h') (hd : h'.get? D = some o) (hs : h.get? D = none) : News h₀ L h' ((D, o) :: news) := by
  intro p hp
  rcases List.mem_cons.mp hp with rfl | hp
  · refine ⟨hd, fun e => ?_, ?_⟩
    · have e' : D = L := e
      obtain ⟨q, _, _, hq, _⟩ := F.ns
      rw [← e', hs] at hq; cases hq
    · cases q : h₀.get? D with
      | none => rfl
      | some z =>
        have := F.keep _ _ q
        rw [hs] at this; cases this
  · exact ⟨x _ _ (N p hp).1, (N p hp).2⟩
end Mine
end
section
open PySem PySem.W PySem.Spec PySem.Calls PyProof.Rows PyProof.V
set_option Elab.async false
namespace Mine
set_option maxRecDepth 100000
set_option maxHeartbeats 4000000
theorem PClaim.weak {prog : Program} {w : World} {K : Frag} {p : Program} {loose : List Str} {mean : ExcName → Option Value} {mg mb : Str → Option Value} {r : Nat} {f : Addr} {need need' : Heap → Prop} {vs : List Value} {back back' : Heap → Heap → Value → Prop}
    (C : PClaim prog w K p loose mean mg mb r f need vs back) (hn : ∀ h, need' h → need h) (hb : ∀ h h' v, back h h' v → back' h h' v) : PClaim prog w K p loose mean mg mb r f need' vs back' :=
  fun _ _ _ _ _ _ _ _ _ _ _ _ _ _ _ _ _ B F X T hk hneed hd hun hret => C _ _ _ _ _ _ _ _ _ _ _ _ _ _ _ _ _ B F X T hk (hn _ hneed) hd hun fun v h' tk' x b => hret v h' tk' x (hb _ _ _ b)
theorem len_cutL (l mark : List Nat) : (cutL l mark).length ≤ l.length + 1 := by
  have h1 := cutW_fold mark (splitNL l) ([], none)
  have h2 := len_split l
  have h3 : cutW ([], none) = 0 := rfl
  have h4 := wsum_len ((splitNL l).foldl (cutStep mark) ([], none)).1
  unfold cutL
  unfold cutW at h1
  unfold cutW at h3
  unfold wsum at h1 h4 h3
  dsimp only at h1 h3
  omega
section
variable (w : World) (p : Program) (loose : List Str) (mean : ExcName → Option Value) (mg mb : Str → Option Value)
theorem text5_c (l : Addr) (vs : List Value) (ns : List Int) (hn : ns.length ≤ 5) :
    PClaim PySem.Challenge.rw_dm5004_01.row.prog w (hd.heap_39 w.params) p loose mean mg mb 2 74 (fun h => h.IsList l vs.toArray ∧ IntsAre vs ns) [.ref l] (fun _ _ v => ∃ u t, v = .str (S u) t ∧ textC u ∧ u.length ≤ 45) :=
  (lawtext_c w p loose mean mg mb l vs ns (by omega)).weak (fun _ h => h) fun _ _ _ ⟨t, e⟩ => ⟨_, t, e, text_textC ns, by have := len_text ns; omega⟩
variable {n : Nat} (hn : 4 ≤ n) (hn2 : n ≤ 12) {mark : List Nat} (hm : MarkOk mark) {u v : List Nat} (hu : textC u) (hv : textC v)
include hn hn2 hm hu hv
theorem letter3_c (D : Addr) (tu tv t tm tn : Tok) (hul : u.length ≤ 60000) (hvl : v.length ≤ 45) :
    PClaim PySem.Challenge.rw_dm5004_01.row.prog w (hd.heap_39 w.params) p loose mean mg mb 5 81 (fun h => h.IsList D (List.toArray [.str (S u) tu, .str (S v) tv, .str (Str.ofString "") t])) [.ref D, .str (S mark) tm, .int (n : Int) tn]
      (fun _ _ x => ∃ e t, x = .str (S e) t ∧ e = letterL [u, v, []] mark n ∧ textC e ∧ e.length ≤ 15 * u.length + 735 ∧ ¬ e = []) :=
  (letter_c w p loose mean mg mb D [.str (S u) tu, .str (S v) tv, .str (Str.ofString "") t] [u, v, []] mark n tm tn
    (by
      intro q hq
      simp only [List.mem_cons, List.not_mem_nil, or_false] at hq
      rcases hq with rfl | rfl | rfl
      · exact hu
      · exact hv
      · exact fun c hc => nomatch hc)
    (by
      intro q hq
      simp only [List.mem_cons, List.not_mem_nil, or_false] at hq
      rcases hq with rfl | rfl | rfl
      · omega
      · omega
      · simp)
    (by simp) (by have := hm.2.2.2; omega) hn (by omega)).weak (fun _ h => ⟨h, strL3⟩) fun _ _ _ ⟨t, e⟩ => ⟨_, t, e, rfl, letter_textC hn hm hu hv, by have := letter_len (n := n) (u := u) (v := v) hm.2.2.2; omega, letter_ne⟩
theorem cut3_c (e : List Nat) (te tm : Tok) (he : e = letterL [u, v, []] mark n) (hel : e.length ≤ 10000000) :
    PClaim PySem.Challenge.rw_dm5004_01.row.prog w (hd.heap_39 w.params) p loose mean mg mb 3 88 (fun _ => True) [.str (S e) te, .str (S mark) tm]
      (fun h h' x => ∃ D t1 t2 t3 k, x = .ref D ∧ h.get? D = none ∧ h'.get? D = some (listOf (List.toArray [.str (S (encL n u)) t1, .str (S (encL n v)) t2, .str (S []) t3]) k)) :=
  (cut_c w p loose mean mg mb e mark te tm hel (by have := hm.2.2.2; omega)).weak (fun _ h => h) fun _ _ _ ⟨D, vs, k, e1, e2, e3, e4⟩ => by
    rw [he, letter_cut hn hm hu hv] at e4
    obtain ⟨t1, t2, t3, rfl⟩ := strL3_inv e4
    exact ⟨D, t1, t2, t3, k, e1, e2, e3⟩
omit hm hv in
theorem decE_c (te : Tok) (hul : u.length ≤ 60000) :
    PClaim PySem.Challenge.rw_dm5004_01.row.prog w (hd.heap_39 w.params) p loose mean mg mb 3 65 (fun _ => True) [.str (S (encL n u)) te] (fun _ _ x => ∃ t, x = .str (S u) t) :=
  (dec_c w p loose mean mg mb (encL n u) te (fun c hc => okC_brk c (encL_ok hn hu c hc)) (by have := len_encL n u; omega)).weak (fun _ h => h) fun _ _ _ ⟨t, e⟩ => ⟨t, by rw [dec_enc hn hu] at e; exact e⟩
omit hn hn2 hm hu hv in
theorem dec0_c (te : Tok) :
    PClaim PySem.Challenge.rw_dm5004_01.row.prog w (hd.heap_39 w.params) p loose mean mg mb 3 65 (fun _ => True) [.str (S []) te] (fun _ _ x => ∃ t, x = .str (S []) t) :=
  (dec_c w p loose mean mg mb [] te (fun c hc => nomatch hc) (by simp)).weak (fun _ h => h) fun _ _ _ ⟨t, e⟩ => ⟨t, e⟩
omit hm hv in
theorem letter1_c (D : Addr) (tu tm tn : Tok) (hul : u.length ≤ 60000) :
    PClaim PySem.Challenge.rw_dm5004_01.row.prog w (hd.heap_39 w.params) p loose mean mg mb 5 81 (fun h => h.IsList D (List.toArray [.str (S u) tu])) [.ref D, .str (Str.ofString "--k") tm, .int (n : Int) tn]
      (fun _ _ x => ∃ e t, x = .str (S e) t ∧ e = letterL [u] kMark n ∧ e.length ≤ 10000000) := by
  rw [lit_k]
  refine (letter_c w p loose mean mg mb D [.str (S u) tu] [u] kMark n tm tn
    (by intro q hq; rw [List.mem_singleton.mp hq]; exact hu) (by intro q hq; rw [List.mem_singleton.mp hq]; omega) (by simp) (by decide) hn (by omega)).weak (fun _ h => ⟨h, strL1⟩) fun _ _ _ ⟨t, e⟩ => ⟨_, t, e, rfl, ?_⟩
  have h1 := len_encL n u
  have h2 : kMark.length = 3 := rfl
  unfold letterL
  simp only [List.flatMap_cons, List.flatMap_nil, List.length_append, List.length_cons, List.length_nil]
  omega
omit hn2 hm hv in
theorem cut1_c (e pl : List Nat) (te tm : Tok) (he : e = letterL [pl] kMark n) (hpl : pl = kMark ++ 10 :: (kMark ++ 10 :: (u ++ 10 :: kMark))) (hel : e.length ≤ 10000000) :
    PClaim PySem.Challenge.rw_dm5004_01.row.prog w (hd.heap_39 w.params) p loose mean mg mb 3 88 (fun _ => True) [.str (S e) te, .str (Str.ofString "--k") tm]
      (fun h h' x => ∃ D vs k, x = .ref D ∧ h.get? D = none ∧ h'.get? D = some (listOf (List.toArray vs) k) ∧ 2 < vs.length ∧ vs.length ≤ 10000001) := by
  rw [lit_k]
  refine (cut_c w p loose mean mg mb e kMark te tm hel (by decide)).weak (fun _ h => h) fun _ _ _ ⟨D, vs, k, e1, e2, e3, e4⟩ => ⟨D, vs, k, e1, e2, e3, ?_⟩
  rw [e4.length]
  refine ⟨?_, Nat.le_trans (len_cutL e kMark) (by omega)⟩
  rw [he, hpl]
  exact cut_plain hn hu
end
end Mine
end
section
open PySem PySem.W PySem.Spec PySem.Calls PyProof.Rows PyProof.V
set_option Elab.async false
namespace Mine
set_option maxRecDepth 100000
set_option maxHeartbeats 4000000
theorem len_kMark : kMark.length = 3 := rfl
def TextsOk (ls : List (List Nat)) : Prop := ∀ u ∈ ls, textC u ∧ u.length ≤ 45
theorem TextsOk.snoc {ls : List (List Nat)} {u : List Nat} (h : TextsOk ls) (hu : textC u) (hl : u.length ≤ 45) : TextsOk (ls ++ [u]) := fun q hq => by
  rcases List.mem_append.mp hq with hq | hq
  · exact h q hq
  · rw [List.mem_singleton.mp hq]; exact ⟨hu, hl⟩
def ElemQ (s : Shared) (h₀ : Heap) (L : Addr) (m : Str → Option Value) (news : List (Addr × Obj)) (y : Value) (s₂ : Shared) : Prop :=
  ∃ h' tk' u t, y = .str (S u) t ∧ s₂ = { s with heap := h', toks := tk' } ∧ textC u ∧ u.length ≤ 45 ∧ Fr h₀ L h' m ∧ News h₀ L h' news
theorem rest_all {prog : Program} {w : World} {A : Around} {h₀ : Heap} {L : Addr} {m : Str → Option Value} {env : Env} {elt : PySem.Expr} {x : Str} {scope : Scope} {cl : List (Str × Addr)} {s : Shared} {P : Nat → Value → Prop} {Fin : List Value → List (Addr × Obj) → Prop} {news : List (Addr × Obj)} {n : Nat}
    (turn : ∀ i ys v I oI C oC D m₂ h tk (E' : Value → Shared → Prop), i < n → P i v → LCg.NsObj oC m₂ → m₂ x = some v → Fr h₀ L h m → News h₀ L h ((I, oI) :: (C, oC) :: (D, LCg.lst ys) :: news) → LCg.Off3 I C D news → ((@Ne Nat I C) ∧ (@Ne Nat I D) ∧ (@Ne Nat C D)) →
      wpAny (model prog w) A (eval elt (compEnvC scope cl C env)) (ElemQ s h₀ L m ((I, oI) :: (C, oC) :: (D, LCg.lst ys) :: news)) E' { s with heap := h, toks := tk })
    (fin : ∀ ys ls, StrL ys ls → ls.length = n → TextsOk ls → Fin ys news) :
    ∀ k i ys ls, StrL ys ls → ls.length = i → i + k = n → TextsOk ls → LCg.CompRest prog w A h₀ L m env elt x scope cl s (fun _ => True) P Fin k i ys news := by
  intro k
  induction k with
  | zero => intro i ys ls hs hl hk ht; exact LCg.CompRest.zero (fin ys ls hs (by omega) ht)
  | succ k ih =>
    intro i ys ls hs hl hk ht
    refine LCg.CompRest.succ ?_
    intro v I oI C oC D m₂ h tk E' hv hC hx F N off ne
    refine wpAny_mono (turn i ys v I oI C oC D m₂ h tk E' (by omega) hv hC hx F N off ne) (fun y s₂ q => ?_) fun _ _ e => e
    obtain ⟨h', tk', u, t, rfl, rfl, hu, hul, F', N'⟩ := q
    exact ⟨h', tk', news, rfl, F', N', off, trivial, ih (i + 1) _ _ (hs.snoc u t) (by rw [List.length_append, hl]; rfl) (by omega) (ht.snoc hu hul)⟩
def TxtQ (s₁ : Shared) (L : Addr) (m : Str → Option Value) (news : List (Addr × Obj)) (r : Int) (f : Flow) (s' : Shared) : Prop :=
  ∃ T ls us h' tk', f = .next ∧ s' = { s₁ with heap := h', toks := tk' } ∧ Fr s₁.heap L h' (fun z => if z = Str.ofString "texts" then some (.ref T) else m z) ∧ News s₁.heap L h' ((T, LCg.lst us) :: news) ∧ LCg.Off1 T news ∧ StrL us ls ∧ (ls.length : Int) = r + 1 ∧ TextsOk ls
theorem rng_up {r : Int} (hr : r = 1 ∨ r = 2 ∨ r = 3) : Builtin.Range.small 0 (r + 1) 1 = true ∧ Builtin.Range.rangeSize 0 (r + 1) 1 = (((r + 1).toNat : Nat) : Int) := by
  rcases hr with rfl | rfl | rfl <;> exact ⟨by decide, by decide⟩
theorem rng_up0 {r : Int} (hr : r = 1 ∨ r = 2 ∨ r = 3) : Builtin.Range.small 0 r 1 = true ∧ Builtin.Range.rangeSize 0 r 1 = ((r.toNat : Nat) : Int) := by
  rcases hr with rfl | rfl | rfl <;> exact ⟨by decide, by decide⟩
theorem rng_down {r : Int} (hr : r = 1 ∨ r = 2 ∨ r = 3) : Builtin.Range.small (r - 1) (-1) (-1) = true ∧ Builtin.Range.rangeSize (r - 1) (-1) (-1) = ((r.toNat : Nat) : Int) := by
  rcases hr with rfl | rfl | rfl <;> exact ⟨by decide, by decide⟩
theorem plain_ok {v : List Nat} (hv : textC v) (hl : v.length ≤ 45) : ∃ pl, pl = kMark ++ 10 :: (kMark ++ [10]) ++ v ++ 10 :: kMark ∧ pl = kMark ++ 10 :: (kMark ++ 10 :: (v ++ 10 :: kMark)) ∧ textC pl ∧ pl.length ≤ 60000 := by
  have h1 : textC (kMark ++ 10 :: (kMark ++ [10])) := by intro c hc; revert c; decide
  have h2 : textC (10 :: kMark) := by intro c hc; revert c; decide
  refine ⟨_, rfl, by simp, textC_append (textC_append h1 hv) h2, ?_⟩
  simp only [List.length_append, List.length_cons, List.length_nil, len_kMark]
  omega
section
variable {prog : Program} {w : World} {A : Around} {E : Value → Shared → Prop} {s : Shared} {Q : Value → Shared → Prop} {h₀ : Heap} {L : Addr} {news : List (Addr × Obj)} {value slice : PySem.Expr}
theorem text_item {T : Addr} {us : List Value} {ls : List (List Nat)} {i : Int} {u : Tok} (N : News h₀ L s.heap news) (hm : (T, LCg.lst us) ∈ news) (hs : StrL us ls) (ht : TextsOk ls) (h0 : 0 ≤ i) (h1 : i < (ls.length : Int)) (h2 : i < 9223372036854775808)
    (h : ∀ v t, v = ls.getD i.toNat [] → textC v → v.length ≤ 45 → Q (.str (S v) t) s)
    (hq : subscripted slice false (.ref T) (.int i u) = operate [.ref T, .int i u] (getItem (.ref T) (.int i u)) := by with_unfolding_all rfl) (hg : ∀ r, letTemporaryGo value (.ref T) r = pure () := by intro _; with_unfolding_all rfl) :
    wpAny (model prog w) A (subscriptTail value slice (.ref T) (.int i u)) Q E s := by
  have hlt : i.toNat < us.length := by rw [hs.length]; omega
  obtain ⟨x, hx⟩ : ∃ x, us[i.toNat]? = some x := ⟨_, List.getElem?_eq_getElem hlt⟩
  obtain ⟨r, tk, hr, rfl⟩ := hs.get hx
  have e : r = ls.getD i.toNat [] := by rw [List.getD_eq_getElem?_getD, hr]; rfl
  have hk := ht r (List.mem_of_getElem? hr)
  exact item_list ⟨_, (N _ hm).1, rfl, _, rfl⟩ h0 (by omega) (by simpa using hx) (h r tk e hk.1 hk.2) hq hg
end
/-- the texts of the rounds: each round's letter holds the one before -/
def innL (mk : List Nat) (n : Nat) (ls : List (List Nat)) : Nat → List Nat
  | 0 => ls.getD 0 []
  | i + 1 => letterL [innL mk n ls i, ls.getD (i + 1) [], []] mk n
theorem TextsOk.at {ls : List (List Nat)} (h : TextsOk ls) (i : Nat) : textC (ls.getD i []) ∧ (ls.getD i []).length ≤ 45 := by
  rw [List.getD_eq_getElem?_getD]
  cases e : ls[i]? with
  | none => exact ⟨fun _ q => (nomatch q), by simp⟩
  | some u => exact h u (List.mem_of_getElem? e)
theorem inn_ok {mk : List Nat} {n : Nat} {ls : List (List Nat)} (hn : 4 ≤ n) (hm : MarkOk mk) (h : TextsOk ls) : ∀ i, textC (innL mk n ls i)
  | 0 => (h.at 0).1
  | i + 1 => letter_textC hn hm (inn_ok hn hm h i) (h.at (i + 1)).1
theorem inn_len_succ {mk : List Nat} {n : Nat} {ls : List (List Nat)} (hm : MarkOk mk) (h : TextsOk ls) (i : Nat) : (innL mk n ls (i + 1)).length ≤ 15 * (innL mk n ls i).length + 735 := by
  have h1 := letter_len (n := n) (u := innL mk n ls i) (v := ls.getD (i + 1) []) hm.2.2.2
  have h2 := (h.at (i + 1)).2
  show (letterL _ mk n).length ≤ _
  omega
theorem inn_len {mk : List Nat} {n : Nat} {ls : List (List Nat)} (hm : MarkOk mk) (h : TextsOk ls) {i : Nat} (hi : i ≤ 2) : (innL mk n ls i).length ≤ 60000 := by
  have h0 : (innL mk n ls 0).length ≤ 45 := (h.at 0).2
  have h1 : (innL mk n ls 1).length ≤ 15 * (innL mk n ls 0).length + 735 := inn_len_succ (n := n) hm h 0
  have h2 : (innL mk n ls 2).length ≤ 15 * (innL mk n ls 1).length + 735 := inn_len_succ (n := n) hm h 1
  rcases i with _ | _ | _ | i
  · omega
  · show (innL mk n ls 1).length ≤ _; omega
  · show (innL mk n ls 2).length ≤ _; omega
  · omega
theorem inn_len3 {mk : List Nat} {n : Nat} {ls : List (List Nat)} (hm : MarkOk mk) (h : TextsOk ls) {i : Nat} (hi : i ≤ 3) : (innL mk n ls i).length ≤ 10000000 := by
  rcases i with _ | i
  · exact Nat.le_trans (inn_len hm h (by omega)) (by omega)
  · have := inn_len (n := n) hm h (i := i) (by omega)
    have := inn_len_succ (n := n) hm h i
    omega
end Mine
end
section
open PySem PySem.W PySem.Spec PySem.Calls PyProof.Rows PyProof.V
set_option Elab.async false
namespace Mine
set_option maxRecDepth 100000
set_option maxHeartbeats 4000000
section
variable {prog : Program} {w : World} {A : Around} {E : Value → Shared → Prop} {s : Shared} {env : Env} {h₀ : Heap} {x : Str} {body : List Stmt} {Q : Flow → Shared → Prop}
theorem rng_st {σ : Type} {r : Addr} {a₀ b₀ c₁ : Int} {t₀ u₀ v₀ : Tok} {n : Nat} {m₀ : Str → Option Value} (Led : σ → List (Addr × Obj)) (ps : σ → List (Str × Value)) (stored : List Str) (P : Nat → σ → Prop) (c₀ : σ)
    (hh : A.handled = none) (hr : IsRange s.heap r a₀ b₀ c₁ t₀ u₀ v₀) (hsmall : Builtin.Range.small a₀ b₀ c₁ = true) (hn : Builtin.Range.rangeSize a₀ b₀ c₁ = (n : Int))
    (F : Fr h₀ env.locals s.heap m₀) (N : News h₀ env.locals s.heap (Led c₀)) (hk : ∀ p ∈ ps c₀, m₀ p.1 = some p.2) (hp : P 0 c₀)
    (turn : ∀ i t (c : σ) (u : Str → Option Value) h tk (I : Addr) (o : Obj), i < n → P i c → (∀ p ∈ Led c, p.1 ≠ I) →
      Fr h₀ env.locals h (fun y => if y = x then some (.int (a₀ + (i : Int) * c₁) t) else kstB (fun z => if stored.contains z then u z else m₀ z) (ps c) y) → News h₀ env.locals h ((I, o) :: Led c) →
      wpAny (model prog w) A (execs body env) (ForPost h₀ env.locals s Led ps x stored m₀ (P (i + 1)) I o Q) E { s with heap := h, toks := tk })
    (done : ∀ (c : σ) (u : Str → Option Value) h tk, P n c → Fr h₀ env.locals h (fun y => if y = x then u y else kstB (fun z => if stored.contains z then u z else m₀ z) (ps c) y) → News h₀ env.locals h (Led c) → Q .next { s with heap := h, toks := tk }) :
    wpAny (model prog w) A (pyIter (.ref r)) (fun it s₂ => LoopAtV prog w A h₀ env x body Q E it s₂) E s := by
  refine wpAny_pyIter_range hr hsmall ?_
  have W : Walks prog w A s.heap.objs.size [s.heap.objs.size] [s.heap.objs.size] n (fun i v => i < n ∧ ∃ t, v = .int (a₀ + i * c₁) t)
      (fun i h => IsRangeIter h s.heap.objs.size (a₀ + (i : Nat) * c₁) ((n : Int) - (i : Nat)) c₁) := (Walks.range hh _ a₀ c₁ n).bound
  let J : Nat → (Str → Option Value) → List (Addr × Obj) → Prop := fun i m₁ news₁ => ∃ c : σ, news₁ = Led c ∧ (∀ p ∈ ps c, m₁ p.1 = some p.2) ∧ (∀ z, z ≠ x → (∀ p ∈ ps c, z ≠ p.1) → stored.contains z = false → m₁ z = m₀ z) ∧ P i c
  refine ⟨_, _, _, n, _, _, m₀, Led c₀, J, rfl, W, ?_, ?_, ?_, (by show IsRangeIter _ _ _ _ _; rw [hn]; simpa using Heap.get?_push_size _ rfl), F.push _, (fun p hp => ⟨Heap.get?_push_of_some _ (N p hp).1, (N p hp).2⟩), ⟨c₀, rfl, hk, fun _ _ _ _ => rfl, hp⟩, ?_, ?_⟩
  · intro hm
    exact absurd F.ns.lt ((List.mem_singleton.mp hm) ▸ Nat.lt_irrefl _)
  · intro b hb
    rw [List.mem_singleton.mp hb]
    exact next_is_new F
  · intro p hp hI
    exact absurd (Heap.lt_size (N p hp).1) ((List.mem_singleton.mp hI) ▸ Nat.lt_irrefl _)
  · rintro i v m₁ news₁ s₁ own ⟨hh', tk', rfl⟩ hin ⟨hi, t, rfl⟩ ⟨c, rfl, h1, h2, hp'⟩ hoff hown hownget hall hst' F₁ N₁
    obtain ⟨io, hio⟩ : ∃ io, hh'.get? s.heap.objs.size = some io := ⟨_, hst'⟩
    have hIown : (s.heap.objs.size, io) ∈ own := hall _ (List.mem_cons_self ..) (next_is_new F) io hio
    have hoffI : ∀ p ∈ Led c, p.1 ≠ s.heap.objs.size := fun p hp e => hoff p hp (by rw [e]; exact List.mem_singleton.mpr rfl)
    have N₂ : News h₀ env.locals hh' ((s.heap.objs.size, io) :: Led c) := fun p hp => by
      rcases List.mem_cons.mp hp with rfl | hp
      · exact N₁ _ (List.mem_append_left _ hIown)
      · exact N₁ _ (List.mem_append_right _ hp)
    refine wpAny_mono (turn i t c m₁ hh' tk' _ io hi hp' hoffI (kst_fr h1 h2 F₁) N₂) (fun f s₂ q => ?_) fun _ _ e => e
    have fin : ForEnd h₀ env.locals s Led ps x stored m₀ (P (i + 1)) s.heap.objs.size io s₂ → LoopStepU h₀ env.locals [s.heap.objs.size] own (J (i + 1)) { s with heap := hh', toks := tk' } .next s₂ := by
      rintro ⟨c', h', tk, m', news', rfl, F', N', hI', hL', hne', hk', hr', hp''⟩
      refine ⟨rfl, h', tk, m', Led c', rfl, F', fun p hp => ?_, fun p hp hb => hne' p hp (List.mem_singleton.mp hb), c', rfl, hk', hr', hp''⟩
      rcases List.mem_append.mp hp with hp | hp
      · have e : p.1 = s.heap.objs.size := List.mem_singleton.mp (hown p hp)
        have e2 : p = (s.heap.objs.size, io) := by
          have h3 : hh'.get? p.1 = some p.2 := hownget p hp
          rw [e, hio] at h3
          exact Prod.ext e (Option.some.inj h3).symm
        rw [e2]; exact N' _ hI'
      · exact N' p (hL' p hp)
    cases f with
    | ret v => exact .ret q
    | brk => exact .brk q
    | next => exact .next (fin q)
    | cont => exact .cont (fin q)
  · rintro h' tk m' news' F' N' _ ⟨c, rfl, h1, h2, hp'⟩
    exact done c m' h' tk hp' (kst_frOut h1 h2 F') N'
theorem rng_tok {σ : Type} {r : Addr} {a₀ b₀ c₁ : Int} {t₀ u₀ v₀ : Tok} {n : Nat} {m₀ : Str → Option Value} (Led : σ → List (Addr × Obj)) (ps : σ → NV) (stored : List Str) (P : Nat → σ → Prop) (c₀ : σ)
    (hh : A.handled = none) (hr : IsRange s.heap r a₀ b₀ c₁ t₀ u₀ v₀) (hsmall : Builtin.Range.small a₀ b₀ c₁ = true) (hn : Builtin.Range.rangeSize a₀ b₀ c₁ = (n : Int))
    (F : Fr h₀ env.locals s.heap m₀) (N : News h₀ env.locals s.heap (Led c₀)) (hk : HasT m₀ (ps c₀)) (hp : P 0 c₀)
    (turn : ∀ i t (c : σ) (τ : Nat → Tok) (u : Str → Option Value) h tk (I : Addr) (o : Obj), i < n → P i c → (∀ p ∈ Led c, p.1 ≠ I) →
      Fr h₀ env.locals h (fun y => if y = x then some (.int (a₀ + (i : Int) * c₁) t) else kstB (fun z => if stored.contains z then u z else m₀ z) (psT τ 0 (ps c)) y) → News h₀ env.locals h ((I, o) :: Led c) →
      wpAny (model prog w) A (execs body env) (TokPost h₀ env.locals s Led ps x stored m₀ (P (i + 1)) I o Q) E { s with heap := h, toks := tk })
    (done : ∀ (c : σ) (τ : Nat → Tok) (u : Str → Option Value) h tk, P n c → Fr h₀ env.locals h (fun y => if y = x then u y else kstB (fun z => if stored.contains z then u z else m₀ z) (psT τ 0 (ps c)) y) → News h₀ env.locals h (Led c) → Q .next { s with heap := h, toks := tk }) :
    wpAny (model prog w) A (pyIter (.ref r)) (fun it s₂ => LoopAtV prog w A h₀ env x body Q E it s₂) E s := by
  obtain ⟨τ, hτ⟩ := psT_has 0 (ps c₀) hk
  refine rng_st (σ := σ × (Nat → Tok)) (fun c => Led c.1) (fun c => psT c.2 0 (ps c.1)) stored (fun i c => P i c.1) (c₀, τ) hh hr hsmall hn F N hτ hp ?_ ?_
  · intro i t c u h tk I o hv hP hne F' N'
    refine wpAny_mono (turn i t c.1 c.2 u h tk I o hv hP hne F' N') (fun f s₂ q => ?_) fun _ _ e => e
    have fin : TokEnd h₀ env.locals s Led ps x stored m₀ (P (i + 1)) I o s₂ → ForEnd h₀ env.locals s (fun c : σ × (Nat → Tok) => Led c.1) (fun c => psT c.2 0 (ps c.1)) x stored m₀ (fun c => P (i + 1) c.1) I o s₂ := by
      rintro ⟨c', h', tk, m', news', rfl, F', N', hI, hn, hne, hk, hr, hp⟩
      obtain ⟨τ', hτ'⟩ := psT_has 0 (ps c') hk
      exact ⟨(c', τ'), h', tk, m', news', rfl, F', N', hI, hn, hne, hτ', fun z h1 h2 h3 => hr z h1 (psT_off.mp h2) h3, hp⟩
    cases f with
    | ret v => exact q
    | brk => exact q
    | next => exact fin q
    | cont => exact fin q
  · intro c u h tk hP F' N'
    exact done c.1 c.2 u h tk hP F' N'
end
end Mine
end
section
open PySem PySem.W PySem.Spec PySem.Calls PyProof.Rows PyProof.V
set_option Elab.async false
namespace Mine
theorem fresh_MLaw : True := by
  w_top off
  trivial
set_option maxRecDepth 100000
set_option maxHeartbeats 0
local macro_rules | `(tactic| walk_at "MINE str") => `(tactic| first | with_reducible exact lit_kk | with_reducible exact lit_nk | with_reducible exact lit_k | with_reducible exact lit_nl | with_reducible exact lit_e | with_reducible exact lit_eq | with_reducible exact lit_bl | with_reducible exact lit_dd | with_reducible exact lit_ddn | with_reducible exact lit_eu | with_reducible exact lit_hex | with_reducible exact lit_crlf | k_extra "lit" | with_reducible exact rfl)
local macro_rules | `(tactic| walk_at "MINE size") => `(tactic| first | omega | (simp only [List.length_append, List.length_cons, List.length_nil, List.length_take, List.length_drop, List.length_dropLast, len_kMark]; omega) | k_extra "size")
local macro_rules | `(tactic| walk_at "binaryOp Add str str") => `(tactic| (refine' addS ?hx ?hy ?hs ?_; (case hx => walk_at "MINE str"); (case hy => walk_at "MINE str"); (case hs => walk_at "MINE size"); intro _ _))
theorem newsNone2 {h₀ h h' : Heap} {L D : Addr} {m : Str → Option Value} {o : Obj} {news : List (Addr × Obj)} (F : Fr h₀ L h m) (N : News h₀ L h' news) (hd : h'.get? D = some o) (hs : h.get? D = none) : News h₀ L h' ((D, o) :: news) := by
  intro p hp
  rcases List.mem_cons.mp hp with rfl | hp
  · refine ⟨hd, fun e => ?_, ?_⟩
    · have e' : D = L := e
      obtain ⟨q, _, _, hq, _⟩ := F.ns
      rw [← e', hs] at hq; cases hq
    · cases q : h₀.get? D with
      | none => rfl
      | some z =>
        have := F.keep _ _ q
        rw [hs] at this; cases this
  · exact N p hp
local macro_rules | `(tactic| walk_at "MINE kk") => `(tactic| ((case k1 => k_asm); (case k2 => k_asm); (case k3 => k_asm); (case k4 => k_asm); (case k5 => k_asm); (case kK => exact rfl); (case kd => ktr_room); (case ku => ktr_units)))
local macro_rules | `(tactic| walk_at "call ref") => `(tactic| (k_here; (with_reducible show wpAny _ _ (call (Value.ref 74) [_]) _ _ _); k_dflt (refine' pcallN (text5_c _ _ _ _ _ _ _ _ _ ?e1) ?k1 ?k2 ?k3 ?k4 ?k5 ?kK ?kn ?kd ?ku ?_; (case kn => exact ⟨News.isList (by k_asm) (by k_mem), by l_ints⟩); (case e1 => first | omega | (simp only [List.length_take, List.length_drop]; omega)); walk_at "MINE kk"); intro v9 h9 tk9 x9 F9 N9 b9; obtain ⟨u9, t9, e9, c9, l9⟩ := b9; subst e9; clear x9; (try dsimp only); (try k_fold)))
local macro_rules | `(tactic| walk_at "call ref") => `(tactic| (k_here; (with_reducible show wpAny _ _ (call (Value.ref 81) [_, _, _]) _ _ _); k_dflt (refine' pcallN (letter3_c _ _ _ _ _ _ ?e1 ?e2 ?e3 ?e4 ?e5 _ _ _ _ _ _ ?e6 ?e7) ?k1 ?k2 ?k3 ?k4 ?k5 ?kK ?kn ?kd ?ku ?_; (case kn => exact News.isList (by k_asm) (by k_mem)); (case e1 => first | assumption | omega); (case e2 => first | assumption | omega); (case e3 => first | assumption | omega); (case e4 => first | assumption | omega); (case e5 => first | assumption | omega); (case e6 => first | assumption | omega); (case e7 => first | assumption | omega); walk_at "MINE kk"); intro v9 h9 tk9 x9 F9 N9 b9; obtain ⟨u9, t9, e9, q9, c9, l9, n9⟩ := b9; subst e9; clear x9; (try dsimp only); (try k_fold)))
local macro_rules | `(tactic| walk_at "call ref") => `(tactic| (k_here; (with_reducible show wpAny _ _ (call (Value.ref 81) [_, _, _]) _ _ _); k_dflt (refine' pcallN (letter1_c _ _ _ _ _ _ ?e1 ?e2 ?e3 _ _ _ _ ?e4) ?k1 ?k2 ?k3 ?k4 ?k5 ?kK ?kn ?kd ?ku ?_; (case kn => exact News.isList (by k_asm) (by k_mem)); (case e1 => first | assumption | omega | k_extra "plain"); (case e2 => first | assumption | omega | k_extra "plain"); (case e3 => first | assumption | omega | k_extra "plain"); (case e4 => first | assumption | omega | k_extra "plain"); walk_at "MINE kk"); intro v9 h9 tk9 x9 F9 N9 b9; obtain ⟨u9, t9, e9, q9, l9⟩ := b9; subst e9; clear x9; (try dsimp only); (try k_fold)))
local macro_rules | `(tactic| walk_at "call ref") => `(tactic| (k_here; (with_reducible show wpAny _ _ (call (Value.ref 88) [_, _]) _ _ _); k_dflt (refine' pcallN (cut3_c _ _ _ _ _ _ ?e1 ?e2 ?e3 ?e4 ?e5 _ _ _ ?e6 ?e7) ?k1 ?k2 ?k3 ?k4 ?k5 ?kK ?kn ?kd ?ku ?_; (case kn => trivial); (case e6 => assumption); (case e1 => first | assumption | omega); (case e2 => first | assumption | omega); (case e3 => first | assumption | omega); (case e4 => first | assumption | omega); (case e5 => first | assumption | omega); (case e7 => first | assumption | omega); walk_at "MINE kk"); intro v9 h9 tk9 x9 F9 N9 b9; obtain ⟨D9, t91, t92, t93, k9, e9, n9, g9⟩ := b9; subst e9; k_dflt (have N10 := newsNone2 (by k_asm) N9 g9 n9); clear N9 g9 n9; clear x9; (try dsimp only); (try k_fold)))
local macro_rules | `(tactic| walk_at "call ref") => `(tactic| (k_here; (with_reducible show wpAny _ _ (call (Value.ref 88) [_, _]) _ _ _); k_dflt (refine' pcallN (cut1_c _ _ _ _ _ _ ?e1 ?e2 _ _ _ _ ?e3 ?e4 ?e5) ?k1 ?k2 ?k3 ?k4 ?k5 ?kK ?kn ?kd ?ku ?_; (case kn => trivial); (case e3 => assumption); (case e4 => k_extra "plain"); (case e1 => first | assumption | omega | k_extra "plain"); (case e2 => first | assumption | omega | k_extra "plain"); (case e5 => first | assumption | omega | k_extra "plain"); walk_at "MINE kk"); intro v9 h9 tk9 x9 F9 N9 b9; obtain ⟨D9, vs9, k9, e9, n9, g9, l9, m9⟩ := b9; subst e9; k_dflt (have N10 := newsNone2 (by k_asm) N9 g9 n9); clear N9 g9 n9; clear x9; (try dsimp only); (try k_fold)))
local macro_rules | `(tactic| walk_at "call ref") => `(tactic| (k_here; (with_reducible show wpAny _ _ (call (Value.ref 65) [_]) _ _ _); k_dflt (refine' pcallN (decE_c _ _ _ _ _ _ ?e1 ?e2 ?e3 _ ?e4) ?k1 ?k2 ?k3 ?k4 ?k5 ?kK ?kn ?kd ?ku ?_; (case kn => trivial); (case e1 => first | assumption | omega); (case e2 => first | assumption | omega); (case e3 => first | assumption | omega); (case e4 => first | assumption | omega); walk_at "MINE kk"); intro v9 h9 tk9 x9 F9 N9 b9; obtain ⟨t9, e9⟩ := b9; subst e9; clear x9; (try dsimp only); (try k_fold)))
local macro_rules | `(tactic| walk_at "call ref") => `(tactic| (k_here; (with_reducible show wpAny _ _ (call (Value.ref 65) [Value.str (S []) _]) _ _ _); k_dflt (refine' pcallN (dec0_c _ _ _ _ _ _ _) ?k1 ?k2 ?k3 ?k4 ?k5 ?kK trivial ?kd ?ku ?_; walk_at "MINE kk"); intro v9 h9 tk9 x9 F9 N9 b9; obtain ⟨t9, e9⟩ := b9; subst e9; clear x9; (try dsimp only); (try k_fold)))
local macro_rules | `(tactic| walk_at "compareOp Eq str str") => `(tactic| (refine' eqS_ne ?hx ?hy ?hn ?_; (case hx => with_reducible exact rfl); (case hy => exact lit_e); (case hn => assumption)))
local macro_rules | `(tactic| walk_at "compareOp NotEq str str") => `(tactic| (refine' neS_same ?hx ?hy ?hn ?_; (case hx => walk_at "MINE str"); (case hy => walk_at "MINE str"); (case hn => first | exact rfl | k_extra "same")))
local macro_rules | `(tactic| walk_at "subscriptTail Name BinOp ref int") => `(tactic| (k_here; (with_reducible show wpAny _ _ (subscriptTail _ _ (Value.ref 66) (Value.int _ _)) _ _ _); k_dflt (refine' marks_item ?k1 ?k2 ?k3 ?k4 ?_ ?k6; (case k1 => k_asm); (case k2 => k_asm); (case k3 => omega); (case k4 => omega); (case k6 => with_unfolding_all rfl)); intro _))
local macro_rules | `(tactic| walk_at "eval IfExp") => `(tactic| (refine Halt.out ?_))
local macro_rules | `(tactic| walk_at "MINE mem") => `(tactic| first | exact .head _ | exact .tail _ (.head _) | exact .tail _ (.tail _ (.head _)) | exact .tail _ (.tail _ (.tail _ (.head _))) | exact .tail _ (.tail _ (.tail _ (.tail _ (.head _)))))
theorem script_item {prog : Program} {w : World} {A : Around} {E : Value → Shared → Prop} {s : Shared} {Q : Value → Shared → Prop} {h₀ : Heap} {L : Addr} {m : Str → Option Value} {value slice : PySem.Expr} {l : Addr} {vs : List Value} {ns : List Int} {u : Tok}
    (F : Fr h₀ L s.heap m) (hL : h₀.IsList l vs.toArray) (hI : IntsAre vs ns) (hn : ¬ ns = []) (h : ∀ x t, Q (.int x t) s)
    (hs : subscripted slice false (.ref l) (.int 0 u) = operate [.ref l, .int 0 u] (getItem (.ref l) (.int 0 u)) := by with_unfolding_all rfl) (hg : ∀ r, letTemporaryGo value (.ref l) r = pure () := by intro _; with_unfolding_all rfl) :
    wpAny (model prog w) A (subscriptTail value slice (.ref l) (.int 0 u)) Q E s :=
  item_list_ints (lstKept hL F.keep) hI (by decide) (by have := List.length_pos_iff.mpr hn; omega) (by decide) (fun t => h _ t) hs hg
local macro_rules | `(tactic| walk_at "subscriptTail Name Constant ref int") => `(tactic| (k_here; (with_reducible show wpAny _ _ (subscriptTail _ _ (Value.ref _) (Value.int _ _)) _ _ _); k_dflt (refine' script_item ?k1 ?k2 ?k3 ?k4 ?_ ?k6 ?k7; (case k1 => k_asm); (case k2 => assumption); (case k3 => assumption); (case k4 => k_extra "ne"); (case k6 => with_unfolding_all rfl); (case k7 => intro _; with_unfolding_all rfl)); intro _ _))
local macro_rules | `(tactic| walk_at "MINE texts") => `(tactic| (k_here; (with_reducible show wpAny _ _ (subscriptTail _ _ (Value.ref _) (Value.int _ _)) _ _ _); k_dflt (refine' text_item ?k1 ?k2 ?k3 ?k4 ?k5 ?k6 ?k7 ?_ ?k8 ?k9; (case k1 => k_asm); (case k2 => k_mem); (case k3 => assumption); (case k4 => assumption); (case k5 => omega); (case k6 => omega); (case k7 => omega); (case k8 => with_unfolding_all rfl); (case k9 => intro _; with_unfolding_all rfl)); intro v8 t8 e8 c8 l8))
local macro_rules | `(tactic| walk_at "subscriptTail Name Constant ref int") => `(tactic| walk_at "MINE texts")
local macro_rules | `(tactic| walk_at "subscriptTail Name BinOp ref int") => `(tactic| walk_at "MINE texts")
local macro_rules | `(tactic| walk_at "subscriptTail Name Constant ref int") => `(tactic| (k_here; (with_reducible show wpAny _ _ (subscriptTail _ _ (Value.ref _) (Value.int _ _)) _ _ _); k_dflt (refine' item_led ?k1 ?k2 ?k3 ?k4 ?k5 ?_ ?k6 ?k7; (case k1 => k_asm); (case k2 => k_mem); (case k3 => decide); (case k4 => decide); (case k5 => exact rfl); (case k6 => with_unfolding_all rfl); (case k7 => intro _; with_unfolding_all rfl))))
local macro_rules | `(tactic| walk_at "exec Assign cons ListComp") => `(tactic| (refine Halt.out ?_))
local macro_rules | `(tactic| walk_at "OLDexec Assign cons ListComp") => `(tactic| (k_here; k_dflt (refine LCg.Assign_ListComp_U (F₀ := by k_asm) (by rfl) (by with_unfolding_all rfl) (by with_unfolding_all rfl) (by decide) (by rfl) (by decide) (by rfl) (by rfl) (by rfl) ?_); k_dflt lcg_toSrc))
local macro_rules | `(tactic| walk_at "CompSrc") => `(tactic| (refine Halt.out ?_))
local macro_rules | `(tactic| walk_at "exec For Name Call cons nil") => `(tactic| (k_here; (try k_fold); (rename Fr _ _ _ _ => lF'); (with_unfolding_all refine' For_halt lF' ?k1 ?k2 ?_; (case k1 => exact rfl); (case k2 => exact rfl); k_whole)))
def FirstQ (s₁ : Shared) (L : Addr) (m : Str → Option Value) (news : List (Addr × Obj)) (v : Value) (s' : Shared) : Prop :=
  ∃ x t h' k', v = .int x t ∧ s' = { s₁ with heap := h', toks := k' } ∧ Fr s₁.heap L h' m ∧ News s₁.heap L h' news
def NumQ (s₁ : Shared) (L : Addr) (m : Str → Option Value) (c : Addr) (wO : Obj) (v : Value) (s' : Shared) : Prop :=
  ∃ D ws ms h' k', v = .ref D ∧ s' = { s₁ with heap := h', toks := k' } ∧ Fr s₁.heap L h' m ∧ News s₁.heap L h' [(D, listOf (List.toArray ws) 0), (c, wO)] ∧ IntsAre ws ms ∧ ms.length ≤ 64 ∧ @LT.lt Nat _ c D
theorem law_all : PySem.Challenge.rw_dm5004_01.Holds := hd (by
  k_go0
  rename (Mine.hd.heap_39 _).In _ => kX
  rename Top _ _ _ _ _ _ => kT
  rename Fr _ _ _ _ => kF
  rename News _ _ _ _ => kN
  rename IntsAre _ _ => hI
  rename Heap.IsList _ _ _ => hL
  rename ¬ _ < _ => hcond
  rename Below _ _ _ _ => kB
  rename_i w₁ s₀ s₁ mg mb G Y fa o pm doc ho hg X V GL B TE TW w10 w9 M w8 w7 hcd ns hs hlay0 hL1 hr1 hl2 w5 w4 sA vs w1 ra w1' r0 hr hc2 hD h₁ tk₁ wO rgt X0
  have lF : Fr s₁.heap s₁.heap.objs.size h₁ (fun y => if y = Str.ofString "script" then some (.ref sA) else none) := kF
  have rgt2 : wO.data = Data.cell none := rgt
  clear kF rgt hcd hD G Y V GL hs hlay0 hL1 hr1 hl2 ra w1' r0 hr hc2
  have X1 : CellsAre (fun _ => none) [(Str.ofString "numbers", s₁.heap.objs.size + 1)] [(s₁.heap.objs.size + 1, wO)] := X0
  clear X0
  dsimp only
  k_with_none
  (try k_fold)
  k_steps
  refine Halt.to ?_
  refine wpAny_mono (Q := FirstQ s₁ s₁.heap.objs.size (fun y => if y = Str.ofString "script" then some (.ref sA) else none) [(s₁.heap.objs.size + 1, wO)]) ?_ ?_ (fun _ _ e => e)
  · with_reducible refine IfExp_ ?_
    k_with "ne" => exact of_decide_eq_false (by assumption)
    iterate 12 (first | walk1 | (dsimp only; walk1) | skip)
    rotate_left 1
    iterate 3 (first | walk1 | (dsimp only; walk1) | skip)
    (walk1)
    all_goals (rename Fr _ _ _ _ => F9; rename News _ _ _ _ => N9)
    all_goals (exact ⟨_, _, _, _, rfl, rfl, F9, cb_drop N9 (fun p hp => by rw [List.mem_singleton.mp hp]; walk_at "MINE mem")⟩)
  · rintro v s' ⟨x, tx, h2, k2, rfl, rfl, F2, N2⟩
    clear lF kN
    obtain ⟨n, hn0, hn4, hn12⟩ : ∃ n : Nat, 4 + Int.fmod x 9 = (n : Int) ∧ 4 ≤ n ∧ n ≤ 12 := by
      rw [Int.fmod_eq_emod_of_nonneg _ (by decide)]
      exact ⟨(4 + x % 9).toNat, by omega, by omega, by omega⟩
    have hmk : 0 ≤ Int.fmod (Int.fdiv x 27) 4 ∧ Int.fmod (Int.fdiv x 27) 4 < 4 := by
      rw [Int.fmod_eq_emod_of_nonneg _ (by decide)]
      omega
    obtain ⟨hmk0, hmk1⟩ := hmk
    k_steps
    rename_i tM hX F3 N3
    obtain ⟨mk, hmkE⟩ : ∃ mk, mk = marksL.getD (Int.fmod (Int.fdiv x 27) 4).toNat [] := ⟨_, rfl⟩
    have hmk : MarkOk mk := hmkE ▸ marks_ok _ (by omega)
    obtain ⟨r, hr0, hr⟩ : ∃ r : Int, 1 + Int.fmod (Int.fdiv x 9) 3 = r ∧ (r = 1 ∨ r = 2 ∨ r = 3) := by
      refine ⟨_, rfl, ?_⟩
      rw [Int.fmod_eq_emod_of_nonneg _ (by decide)]
      omega
    rw [hn0, hr0, ← hmkE] at F3
    have F4 : ∃ t2 t3 t4, Fr s₁.heap s₁.heap.objs.size hX (fun y => if y = Str.ofString "mark" then some (.str (S mk) tM) else if y = Str.ofString "rounds" then some (.int r t3) else if y = Str.ofString "length" then some (.int (n : Int) t2) else if y = Str.ofString "first" then some (.int x t4) else if y = Str.ofString "script" then some (.ref sA) else none) := ⟨_, _, _, F3⟩
    clear F3 hmkE hn0 hr0 hmk0 hmk1
    obtain ⟨t2, t3, t4, F4⟩ := F4
    refine Halt.to ?_
    refine wpAny_mono (Q := NumQ s₁ s₁.heap.objs.size (fun y => if y = Str.ofString "mark" then some (.str (S mk) tM) else if y = Str.ofString "rounds" then some (.int r t3) else if y = Str.ofString "length" then some (.int (n : Int) t2) else if y = Str.ofString "first" then some (.int x t4) else if y = Str.ofString "script" then some (.ref sA) else none) (s₁.heap.objs.size + 1) wO) ?_ ?_ (fun _ _ e => e)
    · with_reducible refine IfExp_ ?_
      k_with "ne" => exact of_decide_eq_false (by assumption)
      iterate 12 (first | walk1 | (dsimp only; walk1) | skip)
      · iterate 8 (first | walk1 | (dsimp only; walk1) | skip)
        rename Fr _ _ _ _ => F9; rename News _ _ _ _ => N9; rename IntsAre _ (List.drop 1 ns) => I9
        exact ⟨_, _, _, _, _, rfl, rfl, F9, N9, I9, by omega, by assumption⟩
      · iterate 18 (first | walk1 | (dsimp only; walk1) | skip)
        rename Fr _ _ _ _ => F9; rename News _ _ _ _ => N9
        exact ⟨_, _, [x, x + 1, 16 * 13 + 5], _, _, rfl, rfl, F9, N9, by l_ints, by show 3 ≤ 64; omega, by assumption⟩
    · rintro v s' ⟨D, ws, ms, h5, k5, rfl, rfl, F5, N5, hIw, hms, hD⟩
      clear F4 N3
      iterate 3 (first | (k_unfold; (try dsimp only)) | walk1 | (dsimp only; walk1) | skip)
      rename Fr _ _ _ _ => F6; rename News _ _ _ _ => N6
      rename_i h6 o6 d6
      refine Halt.to ?_
      refine wpAny_mono (Q := TxtQ s₁ s₁.heap.objs.size (fun y => if y = Str.ofString "mark" then some (.str (S mk) tM) else if y = Str.ofString "rounds" then some (.int r t3) else if y = Str.ofString "length" then some (.int (n : Int) t2) else if y = Str.ofString "first" then some (.int x t4) else if y = Str.ofString "script" then some (.ref sA) else none) [(D, listOf ws.toArray 0), (s₁.heap.objs.size + 1, o6)] r) ?_ ?_ (fun _ _ e => e)
      · k_dflt (refine LCg.Assign_ListComp_U (F₀ := by k_asm) (by rfl) (by with_unfolding_all rfl) (by with_unfolding_all rfl) (by decide) (by rfl) (by decide) (by rfl) (by rfl) (by rfl) ?_)
        k_dflt lcg_toSrc
        rename IsRange _ _ _ _ _ _ _ _ => R7
        rename Fr _ _ _ _ => F7
        rename News _ _ _ _ => N7
        refine Halt.to ?_
        refine LCg.CompSrc.range rfl F7 N7 R7 (rng_up hr).1 (rng_up hr).2 (by rw [PySem.sizeLine_eq]; omega) ?_
        intro g'
        refine rest_all ?_ ?_ _ _ _ _ StrL.nil rfl (Nat.zero_add _) (fun _ q => nomatch q)
        · clear F7 N7 R7
          intro i ys v I oI C oC Dl m₂ h tk E' hi hv hC hx F8 N8 off ne
          obtain ⟨t9, rfl⟩ := hv
          simp only [LCg.Off3, and_true] at off
          obtain ⟨ne1, ne2, ne3⟩ := ne
          k_fold
          iterate 34 (first | (k_unfold; (try dsimp only)) | walk1 | (dsimp only; walk1) | skip)
          rename Fr _ _ _ _ => F9
          rename News _ _ _ _ => N9
          rename textC _ => c9
          rename List.length _ ≤ 45 => l9
          exact ⟨_, _, _, _, rfl, rfl, c9, l9, F9, fun p hp => N9 p (.tail _ hp)⟩
        · intro ys ls hs hl ht
          intro Dt h tk F8 N8 o1
          exact ⟨Dt, ls, ys, h, tk, rfl, rfl, F8, N8, o1, hs, by omega, ht⟩
      · rintro f s' ⟨T, ls, us, h7, k7, rfl, rfl, F7, N7, off, hs, hl, ht⟩
        simp only [LCg.Off1, and_true] at off
        clear hms hIw d6
        have N8 : News s₁.heap s₁.heap.objs.size h7 [(T, LCg.lst us)] := fun p hp => N7 p (by rw [List.mem_singleton.mp hp]; exact .head _)
        clear N7
        iterate 20 (first | (k_unfold; (try dsimp only)) | walk1 | (dsimp only; walk1) | skip)
        rename (_ = ls.getD (Int.toNat 0) []) => e0
        subst e0
        rename IsRange _ _ _ _ _ _ _ _ => R9
        rename Fr _ _ _ _ => F9
        rename News _ _ _ _ => N9
        refine Halt.to ?_
        refine rng_tok (σ := List Nat) (n := r.toNat) (fun _ => [(T, LCg.lst us)]) (fun c => [(Str.ofString "inner", fun t => .str (S c) t)]) [] (fun i c => c = innL mk n ls i) (ls.getD 0 []) rfl R9 (rng_up0 hr).1 (rng_up0 hr).2 F9 N9 ⟨⟨_, rfl⟩, trivial⟩ rfl ?_ ?_
        · clear F9 N9 R9
          intro i t c τ u h tk I o hi hP hne F9 N9
          have hI1 := neN (hne _ (.head _))
          have hc1 : textC c := hP ▸ inn_ok hn4 hmk ht i
          have hc2 : c.length ≤ 60000 := hP ▸ inn_len hmk ht (by omega)
          dsimp only [kstB, psT] at F9 N9 hI1
          generalize τ 0 = tS at F9
          k_sweep
          iterate 45 (first | (k_unfold; (try dsimp only)) | walk1 | (dsimp only; walk1) | skip)
          dsimp only [TokPost]
          rename Fr _ _ _ _ => F11
          rename News _ _ _ _ => N11
          rename (_ = letterL _ _ _) => q9
          rename (_ = ls.getD _ []) => e8
          refine tok_end _ F11 N11 (.tail _ (.head _)) (fun p hp => by rw [List.mem_singleton.mp hp]; exact .tail _ (.tail _ (.head _))) (fun p hp => by rw [List.mem_singleton.mp hp]; exact hI1) ⟨⟨_, rfl⟩, trivial⟩ (fun z g1 g2 g3 => by have g2 := g2.1; simp [g1, g2]) ?_
          rw [q9, e8, hP, show (0 + (i : Int) * 1 + 1).toNat = i + 1 by omega]
          rfl
        · clear F9 N9 R9
          intro c τ u h tk hP F9 N9
          dsimp only [kstB, psT] at F9 N9
          generalize τ 0 = tS at F9
          k_sweep
          iterate 30 (first | (k_unfold; (try dsimp only)) | walk1 | (dsimp only; walk1) | skip)
          subst hP
          rename IsRange _ _ _ _ _ _ _ _ => R12
          rename Fr _ _ _ _ => F12
          rename News _ _ _ _ => N12
          refine Halt.to ?_
          refine rng_tok (σ := List Nat) (n := r.toNat) (fun _ => [(T, LCg.lst us)]) (fun c => [(Str.ofString "inner", fun t => .str (S c) t)]) [Str.ofString "parts"] (fun i c => c = innL mk n ls (r.toNat - i)) (innL mk n ls r.toNat) rfl R12 (rng_down hr).1 (rng_down hr).2 F12 N12 ⟨⟨_, rfl⟩, trivial⟩ rfl ?_ ?_
          · clear F12 N12 R12
            intro i t c τ u2 h tk I o hi hP hne F9 N9
            have hI1 := neN (hne _ (.head _))
            obtain ⟨j, hj⟩ : ∃ j, r.toNat - i = j + 1 := ⟨r.toNat - i - 1, by omega⟩
            rw [hj] at hP
            have hUt := inn_ok hn4 hmk ht j
            have hUl := inn_len (n := n) hmk ht (i := j) (by omega)
            have hVt := (ht.at (j + 1)).1
            have hVl := (ht.at (j + 1)).2
            have hcl := hP ▸ inn_len3 (n := n) hmk ht (i := j + 1) (by omega)
            obtain ⟨U, hU⟩ : ∃ U, U = innL mk n ls j := ⟨_, rfl⟩
            obtain ⟨V, hV⟩ : ∃ V, V = ls.getD (j + 1) [] := ⟨_, rfl⟩
            have hc : c = letterL [U, V, []] mk n := by rw [hP, hU, hV]; rfl
            rw [← hU] at hUt hUl
            rw [← hV] at hVt hVl
            dsimp only [kstB, psT] at F9 N9 hI1
            generalize τ 0 = tS2 at F9
            k_sweep
            k_with "same" => (rename (_ = ls.getD (Int.toNat _) []) => e8; rw [hV, e8, show (r - 1 + (i : Int) * -1 + 1).toNat = j + 1 by omega])
            iterate 97 (first | (k_unfold; (try dsimp only)) | walk1 | (dsimp only; walk1) | skip)
            dsimp only [TokPost]
            rename Fr _ _ _ _ => F13
            rename News _ _ _ _ => N13
            refine tok_end U F13 N13 (.tail _ (.head _)) (fun p hp => by rw [List.mem_singleton.mp hp]; exact .tail _ (.tail _ (.head _))) (fun p hp => by rw [List.mem_singleton.mp hp]; exact hI1) ⟨⟨_, rfl⟩, trivial⟩ (fun z g1 g2 g3 => by
              have g2 := g2.1
              have g4 := off1 g3
              simp [g1, g2, g4]) ?_
            rw [hU, show r.toNat - (i + 1) = j by omega]
          · clear F12 N12 R12
            intro c τ u2 h tk hP F9 N9
            rw [Nat.sub_self] at hP
            have hP : c = ls.getD (Int.toNat 0) [] := hP
            dsimp only [kstB, psT] at F9 N9
            generalize τ 0 = tS2 at F9
            k_sweep
            k_with "same" => (rename (_ = ls.getD (Int.toNat _) []) => e8; rw [hP, e8])
            iterate 26 (first | (k_unfold; (try dsimp only)) | walk1 | (dsimp only; walk1) | skip)
            rename textC _ => c8
            rename List.length _ ≤ 45 => l8
            obtain ⟨pl, hp1, hp2, hpt, hpl⟩ := plain_ok c8 l8
            rename Fr _ _ _ _ => F14
            rw [← hp1] at F14
            clear F9 N9
            k_with "plain" => exact hp2
            iterate 34 (first | (k_unfold; (try dsimp only)) | walk1 | (dsimp only; walk1) | skip)
            rename News _ _ _ _ => N15
            rename 2 < _ => m15
            rename _ ≤ 10000001 => l15
            refine len_list ⟨_, (N15 _ (.head _)).1, rfl, _, rfl⟩ (by rw [List.size_toArray]; omega) ?_
            iterate 6 (first | (k_unfold; (try dsimp only)) | walk1 | (dsimp only; walk1) | skip)
            rw [show ∀ q : Int, q = 2 → decide (q < (((List.toArray _).size : Nat) : Int)) = true from fun q e => decide_eq_true (by rw [e, List.size_toArray]; omega)]
            · k_end; wrow_close
            · rfl)
end Mine
end
theorem PySem.Challenge.cw_dm5004_01_holds : PySem.Challenge.rw_dm5004_01.Holds :=
  Mine.law_all
