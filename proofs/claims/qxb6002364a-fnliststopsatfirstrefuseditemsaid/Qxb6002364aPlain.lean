/-
  The plain laws of seat b6002364a: no Go in sight. What List reads of a text ('scan'), and that it reads back a joined text.
-/
namespace Go.Proofs.Qxb6002364a

def isSp (c : UInt8) : Bool := c == 32
def isUp (c : UInt8) : Bool := decide (65 ≤ c.toNat) && decide (c.toNat ≤ 90)

/-- What List, with the item that reads a word, makes of a text: is it accepted; the words; what is left. -/
def scan : Nat → List UInt8 → Bool × List (List UInt8) × List UInt8
  | 0, l => (false, [], l)
  | f + 1, l =>
    if (l.dropWhile isSp).takeWhile isUp = [] then (false, [], l.dropWhile isSp)
    else if (((l.dropWhile isSp).dropWhile isUp).dropWhile isSp).head? = some 44 then
      ((scan f ((((l.dropWhile isSp).dropWhile isUp).dropWhile isSp).tail)).1,
        (l.dropWhile isSp).takeWhile isUp :: (scan f ((((l.dropWhile isSp).dropWhile isUp).dropWhile isSp).tail)).2.1,
        (scan f ((((l.dropWhile isSp).dropWhile isUp).dropWhile isSp).tail)).2.2)
    else (true, [(l.dropWhile isSp).takeWhile isUp], ((l.dropWhile isSp).dropWhile isUp).dropWhile isSp)

/-- Words that were read ahead. -/
def pre (ys : List (List UInt8)) (r : Bool × List (List UInt8) × List UInt8) : Bool × List (List UInt8) × List UInt8 := (r.1, ys ++ r.2.1, r.2.2)

theorem pre_nil (r : Bool × List (List UInt8) × List UInt8) : pre [] r = r := rfl
theorem pre_pre (xs ys : List (List UInt8)) (r : Bool × List (List UInt8) × List UInt8) : pre xs (pre ys r) = pre (xs ++ ys) r := by simp [pre]

theorem scan_no (f : Nat) (l : List UInt8) (h : (l.dropWhile isSp).takeWhile isUp = []) : scan (f + 1) l = (false, [], l.dropWhile isSp) := by
  rw [scan, if_pos h]
theorem scan_stop (f : Nat) (l : List UInt8) (h : (l.dropWhile isSp).takeWhile isUp ≠ []) (h2 : (((l.dropWhile isSp).dropWhile isUp).dropWhile isSp).head? ≠ some 44) :
    scan (f + 1) l = (true, [(l.dropWhile isSp).takeWhile isUp], ((l.dropWhile isSp).dropWhile isUp).dropWhile isSp) := by
  rw [scan, if_neg h, if_neg h2]
theorem scan_more (f : Nat) (l l3 : List UInt8) (h : (l.dropWhile isSp).takeWhile isUp ≠ []) (h2 : ((l.dropWhile isSp).dropWhile isUp).dropWhile isSp = 44 :: l3) :
    scan (f + 1) l = pre [(l.dropWhile isSp).takeWhile isUp] (scan f l3) := by
  rw [scan, if_neg h, if_pos (by rw [h2]; rfl), h2]
  rfl

/-- The joined text: word i between pad (2 i) and pad (2 i + 1) spaces, a comma between any two. -/
def txt (pad : Nat → Nat) : Nat → List (List UInt8) → List UInt8
  | _, [] => []
  | i, w :: ws => List.replicate (pad (2 * i)) 32 ++ (w ++ (List.replicate (pad (2 * i + 1)) 32 ++ (if ws = [] then [] else 44 :: txt pad (i + 1) ws)))

theorem dropWhile_sp (n : Nat) (l : List UInt8) : (List.replicate n 32 ++ l).dropWhile isSp = l.dropWhile isSp := by
  induction n with
  | zero => rfl
  | succ n ih => rw [List.replicate_succ, List.cons_append, List.dropWhile_cons, if_pos (by rfl)]; exact ih

theorem dropWhile_none (f : UInt8 → Bool) (l : List UInt8) (h : ∀ c, l.head? = some c → f c = false) : l.dropWhile f = l := by
  cases l with
  | nil => rfl
  | cons c l => rw [List.dropWhile_cons, if_neg (by rw [h c rfl]; simp)]

theorem takeWhile_none (f : UInt8 → Bool) (l : List UInt8) (h : ∀ c, l.head? = some c → f c = false) : l.takeWhile f = [] := by
  cases l with
  | nil => rfl
  | cons c l => rw [List.takeWhile_cons, if_neg (by rw [h c rfl]; simp)]

theorem up_not_sp {c : UInt8} (h : isUp c = true) : isSp c = false := by
  cases e : isSp c with
  | false => rfl
  | true =>
    have : c = 32 := by simpa [isSp] using e
    subst this
    simp [isUp] at h

theorem takeWhile_up (w l : List UInt8) (hw : ∀ c ∈ w, isUp c = true) (hl : ∀ c, l.head? = some c → isUp c = false) : (w ++ l).takeWhile isUp = w ∧ (w ++ l).dropWhile isUp = l := by
  induction w with
  | nil => exact ⟨takeWhile_none _ _ hl, dropWhile_none _ _ hl⟩
  | cons c w ih =>
    have := ih (fun c hc => hw c (by simp [hc]))
    rw [List.cons_append, List.takeWhile_cons, List.dropWhile_cons, if_pos (hw c (by simp)), if_pos (hw c (by simp)), this.1, this.2]
    exact ⟨rfl, rfl⟩

/-- What may stand behind the words: no letter, no space, no comma at its head. -/
def Tail (t : List UInt8) : Prop := ∀ c, t.head? = some c → isUp c = false ∧ isSp c = false ∧ c ≠ 44

theorem head_sp (n : Nat) (r : List UInt8) (hr : ∀ c, r.head? = some c → isUp c = false) : ∀ c, (List.replicate n 32 ++ r).head? = some c → isUp c = false := by
  intro c hc
  cases n with
  | zero => exact hr c (by simpa using hc)
  | succ n =>
    rw [List.replicate_succ] at hc
    have : c = 32 := by simpa using hc.symm
    subst this
    rfl

/-- The first word of a text that goes on with 'r' behind the spaces. -/
theorem word_of (a b : Nat) (w r : List UInt8) (hne : w ≠ []) (hw : ∀ c ∈ w, isUp c = true) (hr : ∀ c, r.head? = some c → isUp c = false ∧ isSp c = false) :
    ((List.replicate a 32 ++ (w ++ (List.replicate b 32 ++ r))).dropWhile isSp).takeWhile isUp = w ∧
    (((List.replicate a 32 ++ (w ++ (List.replicate b 32 ++ r))).dropWhile isSp).dropWhile isUp).dropWhile isSp = r := by
  have h1 : (List.replicate a 32 ++ (w ++ (List.replicate b 32 ++ r))).dropWhile isSp = w ++ (List.replicate b 32 ++ r) := by
    rw [dropWhile_sp]
    apply dropWhile_none
    intro c hc
    cases w with
    | nil => exact absurd rfl hne
    | cons d w =>
      have : c = d := by simpa using hc.symm
      subst this
      exact up_not_sp (hw c (by simp))
  have h2 := takeWhile_up w (List.replicate b 32 ++ r) hw (head_sp b r (fun c hc => (hr c hc).1))
  rw [h1, h2.1, h2.2]
  refine ⟨rfl, ?_⟩
  rw [dropWhile_sp]
  exact dropWhile_none _ _ (fun c hc => (hr c hc).2)

theorem scan_txt (pad : Nat → Nat) (t : List UInt8) (ht : Tail t) : ∀ (ws : List (List UInt8)) (i f : Nat), ws ≠ [] → (∀ w ∈ ws, w ≠ [] ∧ ∀ c ∈ w, isUp c = true) → ws.length ≤ f →
    scan f (txt pad i ws ++ t) = (true, ws, t)
  | [], _, _, h, _, _ => absurd rfl h
  | w :: ws, i, 0, _, _, hf => by simp at hf
  | w :: ws, i, f + 1, _, hw, hf => by
    have hw0 := hw w (by simp)
    by_cases hws : ws = []
    · subst hws
      have e : txt pad i [w] ++ t = List.replicate (pad (2 * i)) 32 ++ (w ++ (List.replicate (pad (2 * i + 1)) 32 ++ t)) := by simp [txt]
      obtain ⟨h1, h2⟩ := word_of (pad (2 * i)) (pad (2 * i + 1)) w t hw0.1 hw0.2 (fun c hc => ⟨(ht c hc).1, (ht c hc).2.1⟩)
      rw [e, scan_stop f _ (by rw [h1]; exact hw0.1) (by rw [h2]; intro hc; exact (ht _ hc).2.2 rfl), h1, h2]
    · have e : txt pad i (w :: ws) ++ t = List.replicate (pad (2 * i)) 32 ++ (w ++ (List.replicate (pad (2 * i + 1)) 32 ++ (44 :: (txt pad (i + 1) ws ++ t)))) := by simp [txt, hws]
      obtain ⟨h1, h2⟩ := word_of (pad (2 * i)) (pad (2 * i + 1)) w (44 :: (txt pad (i + 1) ws ++ t)) hw0.1 hw0.2 (fun c hc => by
        have : c = 44 := by simpa using hc.symm
        subst this
        exact ⟨rfl, rfl⟩)
      have ih := scan_txt pad t ht ws (i + 1) f hws (fun u hu => hw u (by simp [hu])) (by simp at hf; omega)
      rw [e, scan_more f _ _ (by rw [h1]; exact hw0.1) h2, h1, ih]
      rfl

/-- An empty word ends the list there. -/
theorem scan_bad (pad : Nat → Nat) : ∀ (ws vs : List (List UInt8)) (i f : Nat), (∀ w ∈ ws, w ≠ [] ∧ ∀ c ∈ w, isUp c = true) → ws.length < f →
    (scan f (txt pad i (ws ++ [] :: vs))).1 = false ∧ (scan f (txt pad i (ws ++ [] :: vs))).2.1 = ws
  | _, _, _, 0, _, hf => by simp at hf
  | [], vs, i, f + 1, _, _ => by
    have h : ((txt pad i ([] ++ [] :: vs)).dropWhile isSp).takeWhile isUp = [] := by
      have e : txt pad i ([] ++ [] :: vs) = List.replicate (pad (2 * i)) 32 ++ (List.replicate (pad (2 * i + 1)) 32 ++ (if vs = [] then [] else 44 :: txt pad (i + 1) vs)) := by simp [txt]
      rw [e, dropWhile_sp, dropWhile_sp]
      split
      · rfl
      · rfl
    rw [scan_no f _ h]
    exact ⟨rfl, rfl⟩
  | w :: ws, vs, i, f + 1, hw, hf => by
    have hw0 := hw w (by simp)
    have hws : ws ++ [] :: vs ≠ [] := by simp
    have e : txt pad i (w :: ws ++ [] :: vs) = List.replicate (pad (2 * i)) 32 ++ (w ++ (List.replicate (pad (2 * i + 1)) 32 ++ (44 :: txt pad (i + 1) (ws ++ [] :: vs)))) := by simp [txt]
    obtain ⟨h1, h2⟩ := word_of (pad (2 * i)) (pad (2 * i + 1)) w (44 :: txt pad (i + 1) (ws ++ [] :: vs)) hw0.1 hw0.2 (fun c hc => by
      have : c = 44 := by simpa using hc.symm
      subst this
      exact ⟨rfl, rfl⟩)
    have ih := scan_bad pad ws vs (i + 1) f (fun u hu => hw u (by simp [hu])) (by simp at hf; omega)
    rw [e, scan_more f _ _ (by rw [h1]; exact hw0.1) h2, h1]
    refine ⟨ih.1, ?_⟩
    show [w] ++ (scan f (txt pad (i + 1) (ws ++ [] :: vs))).2.1 = w :: ws
    rw [ih.2]
    rfl
end Go.Proofs.Qxb6002364a
