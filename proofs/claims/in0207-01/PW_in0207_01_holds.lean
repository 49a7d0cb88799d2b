import PyProof.Rows.All
import Wide.All
import OpenK.AllK
import Wide.FinOn
import PySem.Challenge.RW_in0207_01
set_option Elab.async false

section
/-! part: Plain -/
namespace Mine
/-! The plain law: texts as lists of signs' numbers. -/

/-- a table's answer: the spelling, or the sign itself -/
def sp (l : List (Nat × List Nat)) (c : Nat) : List Nat := match l.lookup c with
  | some r => r
  | none => [c]

def amp : List Nat := [38, 97, 109, 112, 59]
def lt : List Nat := [38, 108, 116, 59]
def gt : List Nat := [38, 103, 116, 59]
def quot : List Nat := [38, 113, 117, 111, 116, 59]

/-- the five tables -/
def tb (T : Nat) : List (Nat × List Nat) :=
  if T = 0 then [(38, amp), (60, lt), (62, gt)]
  else if T = 1 then [(38, amp), (60, lt), (62, gt), (34, quot), (13, [38, 35, 49, 51, 59]), (10, [38, 35, 49, 48, 59]), (9, [38, 35, 48, 57, 59])]
  else if T = 2 then [(38, amp), (62, gt), (34, quot)]
  else if T = 3 then [(38, amp), (60, lt), (62, gt), (13, [38, 35, 120, 68, 59])]
  else [(38, amp), (60, lt), (34, quot), (9, [38, 35, 120, 57, 59]), (10, [38, 35, 120, 65, 59]), (13, [38, 35, 120, 68, 59])]

def reTab (m : Nat) : List (Nat × List Nat) := [(92, [92, 92]), (10, [92, 110]), (13, [92, 114]), (9, [92, 116]), (m, [92, m])]
def quTab : List (Nat × List Nat) := [(39, [39, 34, 39, 34, 39])]
def markOf (x : List Nat) : Nat := if 39 ∈ x ∧ 34 ∉ x then 34 else 39
/-- the signs that make quote wrap, as the law writes them -/
def bad : List Nat := [39, 34, 92, 38, 60, 62, 10, 13, 9, 32, 59, 35]
def calm (x : List Nat) : Bool := x.all fun c => !bad.contains c

def pX (T : Nat) (x : List Nat) : List Nat := x.flatMap (sp (tb T))
def pR (x : List Nat) : List Nat := [markOf x] ++ x.flatMap (sp (reTab (markOf x))) ++ [markOf x]
def wrap (x : List Nat) : List Nat := [39] ++ x.flatMap (sp quTab) ++ [39]
def pQ (x : List Nat) : List Nat := if x ≠ [] ∧ calm x = true then x else wrap x

/-- the twelve signs of a text -/
def L0 : List Nat := [39, 34, 92, 38, 60, 62, 10, 13, 9, 97, 32, 61]
/-- all signs that may come of them -/
def al : List Nat := L0 ++ [109, 112, 59, 108, 116, 103, 113, 117, 111, 35, 49, 51, 48, 57, 120, 68, 65, 110, 114]

def marked (T : Nat) : Bool := ((tb T).lookup 34).isSome
def parted (T : Nat) (t : List Nat) : Bool := marked T && t.contains 39
def spelt (T : Nat) (t : List Nat) : Bool := [13, 10, 9].any fun c => t.contains c && ((tb T).lookup c).isSome
def safe (t : List Nat) : Bool := decide (t ≠ []) && t.all fun c => [97, 61].contains c
def alike (T : Nat) (t : List Nat) : Bool := if marked T then safe t else !spelt T t

section
variable {T : Nat} {t x y : List Nat} {c m : Nat}

theorem mem_pX : c ∈ pX T x ↔ ∃ d ∈ x, c ∈ sp (tb T) d := by simp [pX, List.mem_flatMap]
theorem mem_wrap : c ∈ wrap x ↔ c = 39 ∨ ∃ d ∈ x, c ∈ sp quTab d := by
  simp only [wrap, List.mem_append, List.mem_singleton, List.mem_flatMap]
  constructor
  · rintro ((h | h) | h)
    · exact .inl h
    · exact .inr h
    · exact .inl h
  · rintro (h | h)
    · exact .inl (.inl h)
    · exact .inl (.inr h)
theorem mem_pR : c ∈ pR x ↔ c = markOf x ∨ ∃ d ∈ x, c ∈ sp (reTab (markOf x)) d := by
  simp only [pR, List.mem_append, List.mem_singleton, List.mem_flatMap]
  constructor
  · rintro ((h | h) | h)
    · exact .inl h
    · exact .inr h
    · exact .inl h
  · rintro (h | h)
    · exact .inl (.inl h)
    · exact .inl (.inr h)
theorem mark_or (x : List Nat) : markOf x = 39 ∨ markOf x = 34 := by unfold markOf; split <;> simp

theorem pX_append : pX T (x ++ y) = pX T x ++ pX T y := by simp [pX, List.flatMap_append]
theorem pX_cons : pX T (c :: x) = sp (tb T) c ++ pX T x := by simp [pX, List.flatMap_cons]

/-! finite facts, sign by sign -/
theorem x39 (hT : T < 5) : sp (tb T) 39 = [39] := by
  have : ∀ T < 5, sp (tb T) 39 = [39] := by decide
  exact this T hT
theorem x34u (hT : T < 5) (hm : marked T = false) : sp (tb T) 34 = [34] := by
  have : ∀ T < 5, marked T = false → sp (tb T) 34 = [34] := by decide
  exact this T hT hm
theorem x34m (hT : T < 5) (hm : marked T = true) : sp (tb T) 34 = quot := by
  have : ∀ T < 5, marked T = true → sp (tb T) 34 = quot := by decide
  exact this T hT hm
theorem one39 (hT : T < 5) (hc : c ∈ al) : (39 ∈ sp (tb T) c ↔ c = 39) := by
  have : ∀ T < 5, ∀ c ∈ al, (39 ∈ sp (tb T) c ↔ c = 39) := by decide
  exact this T hT c hc
theorem one34 (hT : T < 5) (hm : marked T = false) (hc : c ∈ al) : (34 ∈ sp (tb T) c ↔ c = 34) := by
  have : ∀ T < 5, marked T = false → ∀ c ∈ al, (34 ∈ sp (tb T) c ↔ c = 34) := by decide
  exact this T hT hm c hc
theorem no34 (hT : T < 5) (hm : marked T = true) (hc : c ∈ al) : 34 ∉ sp (tb T) c := by
  have : ∀ T < 5, marked T = true → ∀ c ∈ al, 34 ∉ sp (tb T) c := by decide
  exact this T hT hm c hc
theorem L0_al (hc : c ∈ L0) : c ∈ al := List.mem_append_left _ hc
theorem al_X (hT : T < 5) (hc : c ∈ al) : ∀ d ∈ sp (tb T) c, d ∈ al := by
  have : ∀ T < 5, ∀ c ∈ al, ∀ d ∈ sp (tb T) c, d ∈ al := by decide
  exact this T hT c hc
theorem al_R (hm : m = 39 ∨ m = 34) (hc : c ∈ al) : ∀ d ∈ sp (reTab m) c, d ∈ al := by
  have : ∀ m ∈ [39, 34], ∀ c ∈ al, ∀ d ∈ sp (reTab m) c, d ∈ al := by decide
  exact this m (by simpa using hm) c hc
theorem al_Q (hc : c ∈ al) : ∀ d ∈ sp quTab c, d ∈ al := by
  have : ∀ c ∈ al, ∀ d ∈ sp quTab c, d ∈ al := by decide
  exact this c hc
theorem L0_Q (hc : c ∈ L0) : ∀ d ∈ sp quTab c, d ∈ L0 := by
  have : ∀ c ∈ L0, ∀ d ∈ sp quTab c, d ∈ L0 := by decide
  exact this c hc

theorem pX_al (hT : T < 5) (h : ∀ c ∈ x, c ∈ al) : ∀ c ∈ pX T x, c ∈ al := fun c hc => by
  obtain ⟨d, hd, hcd⟩ := mem_pX.mp hc
  exact al_X hT (h d hd) c hcd
theorem pR_al (h : ∀ c ∈ x, c ∈ al) : ∀ c ∈ pR x, c ∈ al := fun c hc => by
  rcases mem_pR.mp hc with h1 | ⟨d, hd, hcd⟩
  · rcases mark_or x with h2 | h2 <;> (rw [h1, h2]; decide)
  · exact al_R (mark_or x) (h d hd) c hcd
theorem wrap_al (h : ∀ c ∈ x, c ∈ al) : ∀ c ∈ wrap x, c ∈ al := fun c hc => by
  rcases mem_wrap.mp hc with h1 | ⟨d, hd, hcd⟩
  · rw [h1]; decide
  · exact al_Q (h d hd) c hcd
theorem wrap_L0 (h : ∀ c ∈ x, c ∈ L0) : ∀ c ∈ wrap x, c ∈ L0 := fun c hc => by
  rcases mem_wrap.mp hc with h1 | ⟨d, hd, hcd⟩
  · rw [h1]; decide
  · exact L0_Q (h d hd) c hcd
theorem pQ_al (h : ∀ c ∈ x, c ∈ al) : ∀ c ∈ pQ x, c ∈ al := by
  unfold pQ
  split
  · exact h
  · exact wrap_al h

/-! which signs stand in what the hands write -/
theorem X39 (hT : T < 5) (h : ∀ c ∈ x, c ∈ al) : 39 ∈ pX T x ↔ 39 ∈ x := by
  rw [mem_pX]
  constructor
  · rintro ⟨d, hd, hc⟩
    exact (one39 hT (h d hd)).mp hc ▸ hd
  · intro hx
    exact ⟨39, hx, by rw [x39 hT]; simp⟩
theorem X34u (hT : T < 5) (hm : marked T = false) (h : ∀ c ∈ x, c ∈ al) : 34 ∈ pX T x ↔ 34 ∈ x := by
  rw [mem_pX]
  constructor
  · rintro ⟨d, hd, hc⟩
    exact (one34 hT hm (h d hd)).mp hc ▸ hd
  · intro hx
    exact ⟨34, hx, by rw [x34u hT hm]; simp⟩
theorem X34m (hT : T < 5) (hm : marked T = true) (h : ∀ c ∈ x, c ∈ al) : 34 ∉ pX T x := by
  rw [mem_pX]
  rintro ⟨d, hd, hc⟩
  exact no34 hT hm (h d hd) hc
theorem re39 (hm : m = 39 ∨ m = 34) : 39 ∈ sp (reTab m) 39 := by rcases hm with rfl | rfl <;> decide
theorem re34 (hm : m = 39 ∨ m = 34) : 34 ∈ sp (reTab m) 34 := by rcases hm with rfl | rfl <;> decide
theorem R39 (h : 39 ∈ x) : 39 ∈ pR x := mem_pR.mpr (.inr ⟨39, h, re39 (mark_or x)⟩)
theorem R34 (h : 34 ∈ x) : 34 ∈ pR x := mem_pR.mpr (.inr ⟨34, h, re34 (mark_or x)⟩)
theorem R39' (x : List Nat) : 39 ∈ pR x := by
  by_cases h : 39 ∈ x
  · exact R39 h
  · exact mem_pR.mpr (.inl (by unfold markOf; simp [h]))
theorem wrap39 : 39 ∈ wrap x := mem_wrap.mpr (.inl rfl)
theorem wrap34 : 34 ∈ wrap x ↔ 39 ∈ x ∨ 34 ∈ x := by
  rw [mem_wrap]
  constructor
  · rintro (h | ⟨d, hd, hc⟩)
    · cases h
    · by_cases h39 : d = 39
      · exact .inl (h39 ▸ hd)
      · have : sp quTab d = [d] := by
          unfold sp quTab
          simp [List.lookup, beq_eq_false_iff_ne.mpr h39]
        rw [this] at hc
        exact .inr (List.mem_singleton.mp hc ▸ hd)
  · rintro (h | h)
    · exact .inr ⟨39, h, by decide⟩
    · exact .inr ⟨34, h, by decide⟩
/-- what repr has written makes quote wrap -/
theorem loud39 (h : 39 ∈ x) : pQ x = wrap x := by
  unfold pQ
  rw [if_neg]
  rintro ⟨_, hc⟩
  have := List.all_eq_true.mp hc 39 h
  simp [bad] at this
theorem QR (x : List Nat) : pQ (pR x) = wrap (pR x) := loud39 (R39' x)


/-! commuting -/
def clearOf (T : Nat) (t : List Nat) : Prop := ∀ c ∈ t, c = 13 ∨ c = 10 ∨ c = 9 → (tb T).lookup c = none
theorem unspelt (h : spelt T t = false) : clearOf T t := fun c hc hcc => by
  have h1 := List.any_eq_false.mp h c (by simpa using hcc)
  simp only [Bool.and_eq_true, List.contains_iff_mem, Option.isSome_iff_ne_none, ne_eq, not_and, Classical.not_not] at h1
  exact h1 hc
theorem mark39 (h : 39 ∉ x) : markOf x = 39 := by unfold markOf; simp [h]
theorem mark34 (h : 39 ∈ x) (h' : 34 ∉ x) : markOf x = 34 := by unfold markOf; simp [h, h']
theorem mark39' (h : 34 ∈ x) : markOf x = 39 := by unfold markOf; simp [h]

theorem oneRX (hT : T < 5) (hm : m = 39 ∨ (m = 34 ∧ marked T = false)) (hc : c ∈ L0) (hl : c = 13 ∨ c = 10 ∨ c = 9 → (tb T).lookup c = none) :
    (sp (reTab m) c).flatMap (sp (tb T)) = (sp (tb T) c).flatMap (sp (reTab m)) := by
  have h1 : ∀ T < 5, ∀ c ∈ L0, (c = 13 ∨ c = 10 ∨ c = 9 → (tb T).lookup c = none) → (sp (reTab 39) c).flatMap (sp (tb T)) = (sp (tb T) c).flatMap (sp (reTab 39)) := by decide
  have h2 : ∀ T < 5, marked T = false → ∀ c ∈ L0, (c = 13 ∨ c = 10 ∨ c = 9 → (tb T).lookup c = none) → (sp (reTab 34) c).flatMap (sp (tb T)) = (sp (tb T) c).flatMap (sp (reTab 34)) := by decide
  rcases hm with rfl | ⟨rfl, hm⟩
  · exact h1 T hT c hc hl
  · exact h2 T hT hm c hc hl
theorem flat_congr {f g : Nat → List Nat} {x : List Nat} (h : ∀ c ∈ x, f c = g c) : x.flatMap f = x.flatMap g := by
  induction x with
  | nil => rfl
  | cons c r ih => rw [List.flatMap_cons, List.flatMap_cons, h c (List.mem_cons_self ..), ih fun d hd => h d (List.mem_cons_of_mem _ hd)]
/-- X and R change places -/
theorem XR_comm (hT : T < 5) (h : ∀ c ∈ t, c ∈ L0) (hs : clearOf T t) (hp : marked T = true → 39 ∉ t) : pX T (pR t) = pR (pX T t) := by
  have hal : ∀ c ∈ t, c ∈ al := fun c hc => L0_al (h c hc)
  have hmk : markOf (pX T t) = markOf t := by
    cases hm : marked T with
    | true =>
      have h39 := hp hm
      rw [mark39 h39, mark39 (fun e => h39 ((X39 hT hal).mp e))]
    | false => unfold markOf; simp only [X39 hT hal, X34u hT hm hal]
  have hmm : markOf t = 39 ∨ (markOf t = 34 ∧ marked T = false) := by
    cases hm : marked T with
    | true => exact .inl (mark39 (hp hm))
    | false => rcases mark_or t with e | e <;> simp [e]
  have hX : sp (tb T) (markOf t) = [markOf t] := by
    rcases hmm with e | ⟨e, hm⟩
    · rw [e]; exact x39 hT
    · rw [e]; exact x34u hT hm
  unfold pR
  rw [hmk]
  simp only [pX, List.flatMap_append, List.flatMap_singleton, hX, List.flatMap_assoc]
  congr 2
  exact flat_congr fun c hc => oneRX hT hmm (h c hc) (hs c hc)
/-- X leaves what quote adds -/
theorem XW_comm (hT : T < 5) (h : ∀ c ∈ x, c ∈ al) (hp : marked T = true → 39 ∉ x) : pX T (wrap x) = wrap (pX T x) := by
  unfold wrap pX
  simp only [List.flatMap_append, List.flatMap_singleton, x39 hT, List.flatMap_assoc]
  congr 2
  refine flat_congr fun c hc => ?_
  have h1 : ∀ T < 5, marked T = false → ∀ c ∈ al, (sp quTab c).flatMap (sp (tb T)) = (sp (tb T) c).flatMap (sp quTab) := by decide
  have h2 : ∀ T < 5, ∀ c ∈ al, c ≠ 39 → (sp quTab c).flatMap (sp (tb T)) = (sp (tb T) c).flatMap (sp quTab) := by decide
  cases hm : marked T with
  | false => exact h1 T hT hm c (h c hc)
  | true => exact h2 T hT c (h c hc) fun e => hp hm (e ▸ hc)

/-! the sign 35 tells a spelled line sign -/
theorem hashX (hT : T < 5) (h : ∀ c ∈ x, c ∈ al) (hh : 35 ∉ x) : 35 ∈ pX T x ↔ spelt T x = true := by
  rw [mem_pX]
  have h1 : ∀ T < 5, ∀ c ∈ al, c ≠ 35 → (35 ∈ sp (tb T) c ↔ (c = 13 ∨ c = 10 ∨ c = 9) ∧ ((tb T).lookup c).isSome = true) := by decide
  constructor
  · rintro ⟨d, hd, hc⟩
    have := (h1 T hT d (h d hd) (fun e => hh (e ▸ hd))).mp hc
    exact List.any_eq_true.mpr ⟨d, by simpa using this.1, by simp [hd, this.2]⟩
  · intro hs
    obtain ⟨d, hd, hc⟩ := List.any_eq_true.mp hs
    simp only [Bool.and_eq_true, List.contains_iff_mem] at hc
    exact ⟨d, hc.1, (h1 T hT d (h d hc.1) (fun e => hh (e ▸ hc.1))).mpr ⟨by simpa using hd, hc.2⟩⟩
theorem hashR (h : ∀ c ∈ x, c ∈ al) : 35 ∈ pR x ↔ 35 ∈ x := by
  rw [mem_pR]
  have h1 : ∀ m ∈ [39, 34], ∀ c ∈ al, (35 ∈ sp (reTab m) c ↔ c = 35) := by decide
  have hm : markOf x ∈ [39, 34] := by rcases mark_or x with e | e <;> simp [e]
  constructor
  · rintro (e | ⟨d, hd, hc⟩)
    · rcases mark_or x with e' | e' <;> (rw [e'] at e; cases e)
    · exact (h1 _ hm d (h d hd)).mp hc ▸ hd
  · intro hx
    exact .inr ⟨35, hx, (h1 _ hm 35 (h 35 hx)).mpr rfl⟩
theorem hashW (h : ∀ c ∈ x, c ∈ al) : 35 ∈ wrap x ↔ 35 ∈ x := by
  rw [mem_wrap]
  have h1 : ∀ c ∈ al, (35 ∈ sp quTab c ↔ c = 35) := by decide
  constructor
  · rintro (e | ⟨d, hd, hc⟩)
    · cases e
    · exact (h1 d (h d hd)).mp hc ▸ hd
  · intro hx
    exact .inr ⟨35, hx, (h1 35 (h 35 hx)).mpr rfl⟩
/-- repr leaves no line sign -/
theorem noLineR (h : ∀ c ∈ x, c ∈ al) : spelt T (pR x) = false := by
  have h1 : ∀ m ∈ [39, 34], ∀ c ∈ al, 13 ∉ sp (reTab m) c ∧ 10 ∉ sp (reTab m) c ∧ 9 ∉ sp (reTab m) c := by decide
  have hm : markOf x ∈ [39, 34] := by rcases mark_or x with e | e <;> simp [e]
  have h2 : ∀ d, d = 13 ∨ d = 10 ∨ d = 9 → d ∉ pR x := by
    intro d hd hx
    rcases mem_pR.mp hx with e | ⟨c, hc, hdc⟩
    · rcases mark_or x with e' | e' <;> (rw [e'] at e; omega)
    · have := h1 _ hm c (h c hc)
      rcases hd with rfl | rfl | rfl
      · exact this.1 hdc
      · exact this.2.1 hdc
      · exact this.2.2 hdc
  refine List.any_eq_false.mpr fun d hd => ?_
  have := h2 d (by simpa using hd)
  simp [this]
theorem spelt_wrap : spelt T (wrap x) = spelt T x := by
  have h1 : ∀ d, d = 13 ∨ d = 10 ∨ d = 9 → (d ∈ wrap x ↔ d ∈ x) := by
    intro d hd
    rw [mem_wrap]
    have hq : ∀ c, d ∈ sp quTab c ↔ c = d := by
      intro c
      by_cases h39 : c = 39
      · subst h39
        rcases hd with rfl | rfl | rfl <;> decide
      · have : sp quTab c = [c] := by
          unfold sp quTab
          simp [List.lookup, beq_eq_false_iff_ne.mpr h39]
        rw [this, List.mem_singleton]
        exact eq_comm
    constructor
    · rintro (e | ⟨c, hc, hdc⟩)
      · omega
      · exact (hq c).mp hdc ▸ hc
    · intro hx
      exact .inr ⟨d, hx, (hq d).mpr rfl⟩
  unfold spelt
  simp only [List.any_cons, List.any_nil, List.contains_eq_mem, h1 13 (by simp), h1 10 (by simp), h1 9 (by simp)]

/-! the first two signs part the six into two threes -/
def grpA (l : List Nat) : Prop := ∃ d r, l = 39 :: d :: r ∧ (d = 39 ∨ d = 34 ∨ d = 38)
theorem pR_cons (x : List Nat) : ∃ r, pR x = markOf x :: r := ⟨_, rfl⟩
theorem a0 (hT : T < 5) (x : List Nat) : grpA (wrap (pX T (pR x))) := by
  obtain ⟨r, e⟩ := pR_cons x
  rw [e, pX_cons]
  rcases mark_or x with e' | e'
  · rw [e', x39 hT]; exact ⟨39, _, rfl, by simp⟩
  · rw [e']
    cases hm : marked T with
    | true => rw [x34m hT hm]; exact ⟨38, _, rfl, by simp⟩
    | false => rw [x34u hT hm]; exact ⟨34, _, rfl, by simp⟩
theorem a1 (x : List Nat) : grpA (wrap (pR x)) := by
  obtain ⟨r, e⟩ := pR_cons x
  rw [e]
  rcases mark_or x with e' | e'
  · rw [e']; exact ⟨39, _, rfl, by simp⟩
  · rw [e']; exact ⟨34, _, rfl, by simp⟩
theorem a2 (hT : T < 5) (x : List Nat) : grpA (pX T (wrap (pR x))) := by
  obtain ⟨r, e⟩ := pR_cons x
  rw [e]
  rcases mark_or x with e' | e'
  · rw [e']
    have : wrap (39 :: r) = 39 :: 39 :: ([34, 39, 34, 39] ++ r.flatMap (sp quTab) ++ [39]) := rfl
    rw [this, pX_cons, pX_cons, x39 hT]
    exact ⟨39, _, rfl, by simp⟩
  · rw [e']
    have : wrap (34 :: r) = 39 :: 34 :: (r.flatMap (sp quTab) ++ [39]) := rfl
    rw [this, pX_cons, pX_cons, x39 hT]
    cases hm : marked T with
    | true => rw [x34m hT hm]; exact ⟨38, _, rfl, by simp⟩
    | false => rw [x34u hT hm]; exact ⟨34, _, rfl, by simp⟩
/-- how what quote hands on begins -/
def mild (c : Nat) : Prop := c = 39 ∨ (c ∈ al ∧ c ∉ bad)
theorem pQ_cons (x : List Nat) (h : ∀ c ∈ x, c ∈ al) : ∃ c r, pQ x = c :: r ∧ mild c := by
  unfold pQ
  split
  · rename_i hx
    cases x with
    | nil => exact absurd rfl hx.1
    | cons c r =>
      refine ⟨c, r, rfl, .inr ⟨h c (List.mem_cons_self ..), ?_⟩⟩
      have := List.all_eq_true.mp hx.2 c (List.mem_cons_self ..)
      simpa using this
  · exact ⟨39, _, rfl, .inl rfl⟩
theorem mild_X (hT : T < 5) (hc : mild c) : sp (tb T) c = [c] := by
  have : ∀ T < 5, ∀ c ∈ al, c ∉ bad → sp (tb T) c = [c] := by decide
  rcases hc with rfl | hc
  · exact x39 hT
  · exact this T hT c hc.1 hc.2
theorem mild_R (hc : mild c) : ∃ d r, sp (reTab 39) c = d :: r ∧ d ∉ [39, 34, 38] ∧ ∀ T < 5, sp (tb T) d = [d] := by
  rcases hc with rfl | hc
  · exact ⟨92, _, rfl, by decide, by decide⟩
  · have : ∀ c ∈ al, c ∉ bad → sp (reTab 39) c = [c] ∧ c ∉ [39, 34, 38] ∧ ∀ T < 5, sp (tb T) c = [c] := by decide
    obtain ⟨q1, q2, q3⟩ := this c hc.1 hc.2
    exact ⟨c, [], q1, q2, q3⟩
theorem pR_two (x : List Nat) (c : Nat) (r : List Nat) (hc : mild c) (e : x = c :: r) : (∃ r', pR x = 34 :: r') ∨ ∃ d r', pR x = 39 :: d :: r' ∧ d ∉ [39, 34, 38] ∧ ∀ T < 5, sp (tb T) d = [d] := by
  rcases mark_or x with e' | e'
  · obtain ⟨d, r1, h1, h2, h3⟩ := mild_R hc
    refine .inr ⟨d, r1 ++ r.flatMap (sp (reTab 39)) ++ [39], ?_, h2, h3⟩
    unfold pR
    rw [e', e, List.flatMap_cons, h1]
    simp
  · obtain ⟨r', h⟩ := pR_cons x
    exact .inl ⟨r', by rw [h, e']⟩
theorem b_R (x : List Nat) (h : ∃ c r, x = c :: r ∧ mild c) : ¬ grpA (pR x) := by
  obtain ⟨c, r, e, hc⟩ := h
  rintro ⟨d, r', e', hd⟩
  rcases pR_two x c r hc e with ⟨r1, e1⟩ | ⟨d1, r1, e1, h1, _⟩
  · rw [e1] at e'; cases e'
  · rw [e1] at e'
    injection e' with _ e2
    injection e2 with e3 _
    subst e3
    exact h1 (by simpa using hd)
theorem b_XR (hT : T < 5) (x : List Nat) (h : ∃ c r, x = c :: r ∧ mild c) : ¬ grpA (pX T (pR x)) := by
  obtain ⟨c, r, e, hc⟩ := h
  rintro ⟨d, r', e', hd⟩
  rcases pR_two x c r hc e with ⟨r1, e1⟩ | ⟨d1, r1, e1, h1, h2⟩
  · rw [e1, pX_cons] at e'
    cases hm : marked T with
    | true => rw [x34m hT hm] at e'; cases e'
    | false => rw [x34u hT hm] at e'; cases e'
  · rw [e1, pX_cons, pX_cons, x39 hT, h2 T hT] at e'
    injection e' with _ e2
    injection e2 with e3 _
    subst e3
    exact h1 (by simpa using hd)
theorem cons_X (hT : T < 5) (h : ∃ c r, x = c :: r ∧ mild c) : ∃ c r, pX T x = c :: r ∧ mild c := by
  obtain ⟨c, r, e, hc⟩ := h
  exact ⟨c, pX T r, by rw [e, pX_cons, mild_X hT hc]; rfl, hc⟩

/-! a safe text -/
theorem safe_X (hT : T < 5) (h : safe t = true) : pX T t = t := by
  have h1 : ∀ c ∈ t, c = 97 ∨ c = 61 := fun c hc => by
    have := List.all_eq_true.mp (Bool.and_eq_true_iff.mp h).2 c hc
    simpa using this
  have h2 : ∀ T < 5, sp (tb T) 97 = [97] ∧ sp (tb T) 61 = [61] := by decide
  have h3 : ∀ c ∈ t, sp (tb T) c = [c] := fun c hc => by
    rcases h1 c hc with rfl | rfl
    · exact (h2 T hT).1
    · exact (h2 T hT).2
  unfold pX
  rw [flat_congr h3]
  clear h h1 h3
  induction t with
  | nil => rfl
  | cons c r ih => rw [List.flatMap_cons, ih]; rfl
theorem safe_calm (h : safe t = true) : pQ t = t := by
  unfold pQ
  have h0 := Bool.and_eq_true_iff.mp h
  rw [if_pos]
  refine ⟨of_decide_eq_true h0.1, List.all_eq_true.mpr fun c hc => ?_⟩
  have := List.all_eq_true.mp h0.2 c hc
  have h1 : c = 97 ∨ c = 61 := by simpa using this
  rcases h1 with rfl | rfl <;> decide
theorem unsafe_calm (ht : ∀ c ∈ t, c ∈ L0) (h : safe t = false) : ¬ (t ≠ [] ∧ calm t = true) := by
  rintro ⟨h1, h2⟩
  have h3 : safe t = true := by
    refine Bool.and_eq_true_iff.mpr ⟨decide_eq_true h1, List.all_eq_true.mpr fun c hc => ?_⟩
    have h4 := List.all_eq_true.mp h2 c hc
    have h5 : ∀ c ∈ L0, (!bad.contains c) = true → ([97, 61].contains c) = true := by decide
    exact h5 c (ht c hc) h4
  rw [h3] at h; cases h
theorem unsafe_Q (ht : ∀ c ∈ t, c ∈ L0) (h : safe t = false) : pQ t = wrap t := by
  unfold pQ
  rw [if_neg (unsafe_calm ht h)]
theorem unsafe_QX (hT : T < 5) (ht : ∀ c ∈ t, c ∈ L0) (h : safe t = false) : pQ (pX T t) = wrap (pX T t) := by
  unfold pQ
  rw [if_neg]
  rintro ⟨h1, h2⟩
  refine unsafe_calm ht h ⟨?_, ?_⟩
  · rintro rfl; exact h1 rfl
  · refine List.all_eq_true.mpr fun c hc => ?_
    have h3 : ∀ T < 5, ∀ c ∈ L0, (∀ d ∈ sp (tb T) c, (!bad.contains d) = true) → (!bad.contains c) = true := by decide
    exact h3 T hT c (ht c hc) fun d hd => List.all_eq_true.mp h2 d (mem_pX.mpr ⟨c, hc, hd⟩)

/-! the law -/
def six (T : Nat) (t : List Nat) : List (List Nat) := [pQ (pX T (pR t)), pQ (pR (pX T t)), pX T (pQ (pR t)), pX T (pR (pQ t)), pR (pQ (pX T t)), pR (pX T (pQ t))]
def due (T : Nat) (t : List Nat) : List Nat := [0, if spelt T t || parted T t then 1 else 0, if marked T then 2 else 0, 3, if alike T t then 3 else 4, if alike T t then 3 else if parted T t then 5 else 4]

theorem QXR (hT : T < 5) (h : ∀ c ∈ x, c ∈ al) : pQ (pX T (pR x)) = wrap (pX T (pR x)) := loud39 ((X39 hT (pR_al h)).mpr (R39' x))
theorem parted_iff : parted T t = true ↔ marked T = true ∧ 39 ∈ t := by simp [parted]

theorem e01 (hT : T < 5) (ht : ∀ c ∈ t, c ∈ L0) : pQ (pX T (pR t)) = pQ (pR (pX T t)) ↔ (spelt T t || parted T t) = false := by
  have hal : ∀ c ∈ t, c ∈ al := fun c hc => L0_al (ht c hc)
  rw [QXR hT hal, QR]
  constructor
  · intro e
    rw [Bool.or_eq_false_iff]
    constructor
    · cases hs : spelt T t with
      | false => rfl
      | true =>
        exfalso
        have h0 : 35 ∉ t := fun h => by have := ht 35 h; revert this; decide
        have h1 : 35 ∈ wrap (pR (pX T t)) := (hashW (pR_al (pX_al hT hal))).mpr ((hashR (pX_al hT hal)).mpr ((hashX hT hal h0).mpr hs))
        rw [← e, hashW (pX_al hT (pR_al hal)), hashX hT (pR_al hal) (fun h => h0 ((hashR hal).mp h)), noLineR hal] at h1
        cases h1
    · cases hp : parted T t with
      | false => rfl
      | true =>
        exfalso
        obtain ⟨hm, h39⟩ := parted_iff.mp hp
        have hk : markOf (pX T t) = 34 := mark34 ((X39 hT hal).mpr h39) (X34m hT hm hal)
        obtain ⟨r1, e1⟩ := pR_cons (pX T t)
        obtain ⟨r2, e2⟩ := pR_cons t
        rw [e1, e2, hk, pX_cons] at e
        rcases mark_or t with e' | e'
        · rw [e', x39 hT] at e
          unfold wrap at e
          injection e with _ e
          simp only [List.singleton_append, List.flatMap_cons] at e
          injection e with e _
          cases e
        · rw [e', x34m hT hm] at e
          unfold wrap at e
          injection e with _ e
          simp only [List.flatMap_cons] at e
          injection e with e _
          cases e
  · intro h
    rw [Bool.or_eq_false_iff] at h
    rw [XR_comm hT ht (unspelt h.1) fun hm h39 => by rw [parted_iff.mpr ⟨hm, h39⟩] at h; cases h.2]
theorem e02 (hT : T < 5) (ht : ∀ c ∈ t, c ∈ L0) : pQ (pX T (pR t)) = pX T (pQ (pR t)) ↔ marked T = false := by
  have hal : ∀ c ∈ t, c ∈ al := fun c hc => L0_al (ht c hc)
  rw [QXR hT hal, QR]
  constructor
  · intro e
    cases hm : marked T with
    | false => rfl
    | true =>
      exfalso
      have h1 : 34 ∈ wrap (pX T (pR t)) := wrap34.mpr (.inl ((X39 hT (pR_al hal)).mpr (R39' t)))
      rw [e] at h1
      exact X34m hT hm (wrap_al (pR_al hal)) h1
  · intro hm
    exact (XW_comm hT (pR_al hal) fun h => by rw [hm] at h; cases h).symm
theorem e12 (hT : T < 5) (ht : ∀ c ∈ t, c ∈ L0) (hm : marked T = true) : pQ (pR (pX T t)) ≠ pX T (pQ (pR t)) := by
  have hal : ∀ c ∈ t, c ∈ al := fun c hc => L0_al (ht c hc)
  rw [QR, QR]
  intro e
  have h1 : 34 ∈ wrap (pR (pX T t)) := wrap34.mpr (.inl (R39' _))
  rw [e] at h1
  exact X34m hT hm (wrap_al (pR_al hal)) h1
theorem eB (hT : T < 5) (ht : ∀ c ∈ t, c ∈ L0) :
    (pX T (pR (pQ t)) = pR (pQ (pX T t)) ↔ alike T t = true) ∧ (pX T (pR (pQ t)) = pR (pX T (pQ t)) ↔ alike T t = true) ∧
    (alike T t = false → (pR (pQ (pX T t)) = pR (pX T (pQ t)) ↔ parted T t = false)) := by
  have hal : ∀ c ∈ t, c ∈ al := fun c hc => L0_al (ht c hc)
  have h35 : 35 ∉ t := fun h => by have := ht 35 h; revert this; decide
  cases hs : safe t with
  | true =>
    have hX := safe_X hT hs
    have hQ := safe_calm hs
    have h97 : ∀ c ∈ t, c = 97 ∨ c = 61 := fun c hc => by
      have := List.all_eq_true.mp (Bool.and_eq_true_iff.mp hs).2 c hc
      simpa using this
    have hns : spelt T t = false := List.any_eq_false.mpr fun d hd => by
      have hd' : d = 13 ∨ d = 10 ∨ d = 9 := by simpa using hd
      have : d ∉ t := fun h => by have := h97 d h; omega
      simp [this]
    have hn39 : 39 ∉ t := fun h => by have := h97 39 h; omega
    have ha : alike T t = true := by unfold alike; rw [hs, hns]; simp
    have hc : pX T (pR t) = pR t := by rw [XR_comm hT ht (unspelt hns) fun _ => hn39, hX]
    rw [hQ, hX, hQ, hc]
    simp [ha]
  | false =>
    have hw := wrap_al hal
    have hw0 := wrap_L0 ht
    rw [unsafe_Q ht hs, unsafe_QX hT ht hs]
    cases hm : marked T with
    | false =>
      have hu : marked T = true → 39 ∉ t := fun h => by rw [hm] at h; cases h
      have hp : parted T t = false := by unfold parted; rw [hm]; rfl
      rw [XW_comm hT hal hu]
      have ha : alike T t = !spelt T t := by unfold alike; rw [hm]; rfl
      have key : pX T (pR (wrap t)) = pR (wrap (pX T t)) ↔ spelt T t = false := by
        constructor
        · intro e
          cases hsp : spelt T t with
          | false => rfl
          | true =>
            exfalso
            have h1 : 35 ∈ pR (wrap (pX T t)) := (hashR (wrap_al (pX_al hT hal))).mpr ((hashW (pX_al hT hal)).mpr ((hashX hT hal h35).mpr hsp))
            rw [← e, hashX hT (pR_al hw) (fun h => h35 ((hashW hal).mp ((hashR hw).mp h))), noLineR hw] at h1
            cases h1
        · intro hsp
          rw [XR_comm hT hw0 (unspelt (by rw [spelt_wrap]; exact hsp)) fun h => by rw [hm] at h; cases h]
          rw [XW_comm hT hal hu]
      rw [ha, key]
      simp [hp]
    | true =>
      have ha : alike T t = false := by unfold alike; rw [hm, if_pos rfl]; exact hs
      have n34 : 34 ∉ pX T (pR (wrap t)) := X34m hT hm (pR_al hw)
      have hXw34 : 34 ∉ pX T (wrap t) := X34m hT hm hw
      have hXw39 : 39 ∈ pX T (wrap t) := (X39 hT hw).mpr wrap39
      have k5 : markOf (pX T (wrap t)) = 34 := mark34 hXw39 hXw34
      have i5 : 34 ∈ pR (pX T (wrap t)) := by
        obtain ⟨r, e⟩ := pR_cons (pX T (wrap t))
        rw [e, k5]; exact List.mem_cons_self ..
      have n34X : 34 ∉ pX T t := X34m hT hm hal
      have k4 : 39 ∈ t → 34 ∈ wrap (pX T t) := fun h => wrap34.mpr (.inl ((X39 hT hal).mpr h))
      have k4' : 39 ∉ t → 34 ∉ wrap (pX T t) := fun h h' => by
        rcases wrap34.mp h' with h1 | h1
        · exact h ((X39 hT hal).mp h1)
        · exact n34X h1
      have i4 : 34 ∈ pR (wrap (pX T t)) := by
        by_cases h : 39 ∈ t
        · exact R34 (k4 h)
        · obtain ⟨r, e⟩ := pR_cons (wrap (pX T t))
          rw [e, mark34 wrap39 (k4' h)]; exact List.mem_cons_self ..
      refine ⟨⟨fun e => ?_, fun e => ?_⟩, ⟨fun e => ?_, fun e => ?_⟩, fun _ => ?_⟩
      · rw [e] at n34; exact absurd i4 n34
      · rw [ha] at e; cases e
      · rw [e] at n34; exact absurd i5 n34
      · rw [ha] at e; cases e
      · by_cases h : 39 ∈ t
        · have hp : parted T t = true := parted_iff.mpr ⟨hm, h⟩
          rw [hp]
          constructor
          · intro e
            obtain ⟨r, e4⟩ := pR_cons (wrap (pX T t))
            obtain ⟨r', e5⟩ := pR_cons (pX T (wrap t))
            rw [e4, e5, k5, mark39' (k4 h)] at e
            cases e
          · intro e; cases e
        · have hp : parted T t = false := by
            cases hq : parted T t with
            | false => rfl
            | true => exact absurd (parted_iff.mp hq).2 h
          rw [XW_comm hT hal fun _ => h]
          simp [hp]
theorem eAB (hT : T < 5) (ht : ∀ c ∈ t, c ∈ L0) {a b : List Nat} (ha : a = pQ (pX T (pR t)) ∨ a = pQ (pR (pX T t)) ∨ a = pX T (pQ (pR t)))
    (hb : b = pX T (pR (pQ t)) ∨ b = pR (pQ (pX T t)) ∨ b = pR (pX T (pQ t))) : a ≠ b := by
  have hal : ∀ c ∈ t, c ∈ al := fun c hc => L0_al (ht c hc)
  have hA : grpA a := by
    rcases ha with rfl | rfl | rfl
    · rw [QXR hT hal]; exact a0 hT t
    · rw [QR]; exact a1 _
    · rw [QR]; exact a2 hT t
  have hB : ¬ grpA b := by
    rcases hb with rfl | rfl | rfl
    · exact b_XR hT _ (pQ_cons t hal)
    · exact b_R _ (pQ_cons _ (pX_al hT hal))
    · exact b_R _ (cons_X hT (pQ_cons t hal))
  rintro rfl
  exact hB hA
end

/-- which of six are one, from the single comparisons -/
theorem idx6 {α : Type} [DecidableEq α] (a0 a1 a2 a3 a4 a5 : α) (b1 b2 b4 b5 : Bool)
    (h01 : a0 = a1 ↔ b1 = false) (h02 : a0 = a2 ↔ b2 = false) (h12 : b2 = true → a1 ≠ a2)
    (h03 : a0 ≠ a3) (h04 : a0 ≠ a4) (h05 : a0 ≠ a5) (h13 : a1 ≠ a3) (h14 : a1 ≠ a4) (h15 : a1 ≠ a5) (h23 : a2 ≠ a3) (h24 : a2 ≠ a4) (h25 : a2 ≠ a5)
    (h34 : a3 = a4 ↔ b4 = true) (h35 : a3 = a5 ↔ b4 = true) (h45 : b4 = false → (a4 = a5 ↔ b5 = false)) :
    [a0, a1, a2, a3, a4, a5].map (fun y => [a0, a1, a2, a3, a4, a5].findIdx fun z => decide (z = y)) =
      [0, if b1 then 1 else 0, if b2 then 2 else 0, 3, if b4 then 3 else 4, if b4 then 3 else if b5 then 5 else 4] := by
  cases b1 <;> cases b2 <;> cases b4 <;> cases b5 <;> simp_all [List.findIdx_cons]

theorem law_plain {T : Nat} {t : List Nat} (hT : T < 5) (ht : ∀ c ∈ t, c ∈ L0) : (six T t).map (fun y => (six T t).findIdx fun z => decide (z = y)) = due T t := by
  have hB := eB hT ht
  exact idx6 _ _ _ _ _ _ _ _ _ _ (e01 hT ht) (e02 hT ht) (e12 hT ht)
    (eAB hT ht (.inl rfl) (.inl rfl)) (eAB hT ht (.inl rfl) (.inr (.inl rfl))) (eAB hT ht (.inl rfl) (.inr (.inr rfl)))
    (eAB hT ht (.inr (.inl rfl)) (.inl rfl)) (eAB hT ht (.inr (.inl rfl)) (.inr (.inl rfl))) (eAB hT ht (.inr (.inl rfl)) (.inr (.inr rfl)))
    (eAB hT ht (.inr (.inr rfl)) (.inl rfl)) (eAB hT ht (.inr (.inr rfl)) (.inr (.inl rfl))) (eAB hT ht (.inr (.inr rfl)) (.inr (.inr rfl)))
    hB.1 hB.2.1 hB.2.2
end Mine
#print axioms Mine.law_plain
end

section
/-! part: StrL -/
open PySem PySem.W PyProof.Rows
namespace Mine
abbrev cd (x : PySem.Str) : List Nat := x.cps.toList

def rep (c : Nat) (z : List Nat) (k : Nat) : List Nat := if k = c then z else [k]
theorem rep_free (c : Nat) (z : List Nat) : ∀ l : List Nat, c ∉ l → l.flatMap (rep c z) = l
  | [], _ => rfl
  | k :: r, h => by
    have h1 : ¬ k = c := fun e => h (e ▸ List.mem_cons_self ..)
    have h2 : c ∉ r := fun m => h (List.mem_cons_of_mem _ m)
    rw [List.flatMap_cons, rep_free c z r h2]
    simp [rep, h1]
theorem rep_join (c : Nat) (z : PySem.Str) : ∀ parts : List PySem.Str, (∀ p ∈ parts, c ∉ cd p) → (cd (PySem.Str.join ⟨#[c]⟩ parts)).flatMap (rep c (cd z)) = cd (PySem.Str.join z parts)
  | [], _ => rfl
  | [p], h => rep_free c _ _ (h p (List.mem_singleton.mpr rfl))
  | p :: q :: r, h => by
    have ih := rep_join c z (q :: r) fun a ha => h a (List.mem_cons_of_mem _ ha)
    show (cd (p ++ ⟨#[c]⟩ ++ PySem.Str.join ⟨#[c]⟩ (q :: r))).flatMap (rep c (cd z)) = cd (p ++ z ++ PySem.Str.join z (q :: r))
    simp only [cd, PySem.Str.cps_append, Array.toList_append, List.flatMap_append]
    simp only [cd] at ih
    rw [ih, rep_free c _ _ (h p (List.mem_cons_self ..))]
    simp [rep]
theorem cd_replace (x z : PySem.Str) (c : Nat) : cd (Txt.replace x ⟨#[c]⟩ z) = (cd x).flatMap (rep c (cd z)) := by
  have h := rep_join c z _ (StrLaws.split_free x c)
  rw [StrLaws.join_split] at h
  rw [StrLaws.replace_one, ← h]
theorem replace_free (x z : PySem.Str) (c : Nat) (h : c ∉ cd x) : Txt.replace x ⟨#[c]⟩ z = x :=
  PySem.Str.ext' (Array.toList_inj.mp (by have := cd_replace x z c; rw [rep_free c _ _ h] at this; exact this))

/-! the five escapes as the code runs them -/
def rp (x : PySem.Str) (c z : String) : PySem.Str := Txt.replace x (PySem.Str.ofString c) (PySem.Str.ofString z)
def cdataF (x : PySem.Str) : PySem.Str := rp (rp (rp x "&" "&amp;") "<" "&lt;") ">" "&gt;"
def attribF (x : PySem.Str) : PySem.Str := rp (rp (rp (rp (rp (rp (rp x "&" "&amp;") "<" "&lt;") ">" "&gt;") "\"" "&quot;") "\r" "&#13;") "\n" "&#10;") "\t" "&#09;"
def htmlF (x : PySem.Str) : PySem.Str := rp (rp (rp x "&" "&amp;") ">" "&gt;") "\"" "&quot;"
def cdC14F (x : PySem.Str) : PySem.Str := rp (rp (rp (rp x "&" "&amp;") "<" "&lt;") ">" "&gt;") "\r" "&#xD;"
def atC14F (x : PySem.Str) : PySem.Str := rp (rp (rp (rp (rp (rp x "&" "&amp;") "<" "&lt;") "\"" "&quot;") "\t" "&#x9;") "\n" "&#xA;") "\r" "&#xD;"
def escF (T : Int) (x : PySem.Str) : PySem.Str := if T = 0 then cdataF x else if T = 1 then attribF x else if T = 2 then htmlF x else if T = 3 then cdC14F x else atC14F x

theorem cd_rp (x : PySem.Str) {c z : String} (k : Nat) (l : List Nat) (hc : PySem.Str.ofString c = ⟨#[k]⟩) (hz : cd (PySem.Str.ofString z) = l) : cd (rp x c z) = (cd x).flatMap (rep k l) := by
  unfold rp
  rw [hc, cd_replace, hz]

section
variable {x : PySem.Str}
theorem k_amp (x) : cd (rp x "&" "&amp;") = (cd x).flatMap (rep 38 amp) := cd_rp x _ _ (by decide +kernel) (by decide +kernel)
theorem k_lt (x) : cd (rp x "<" "&lt;") = (cd x).flatMap (rep 60 lt) := cd_rp x _ _ (by decide +kernel) (by decide +kernel)
theorem k_gt (x) : cd (rp x ">" "&gt;") = (cd x).flatMap (rep 62 gt) := cd_rp x _ _ (by decide +kernel) (by decide +kernel)
theorem k_quot (x) : cd (rp x "\"" "&quot;") = (cd x).flatMap (rep 34 quot) := cd_rp x _ _ (by decide +kernel) (by decide +kernel)
theorem k_13 (x) : cd (rp x "\r" "&#13;") = (cd x).flatMap (rep 13 [38, 35, 49, 51, 59]) := cd_rp x _ _ (by decide +kernel) (by decide +kernel)
theorem k_10 (x) : cd (rp x "\n" "&#10;") = (cd x).flatMap (rep 10 [38, 35, 49, 48, 59]) := cd_rp x _ _ (by decide +kernel) (by decide +kernel)
theorem k_9 (x) : cd (rp x "\t" "&#09;") = (cd x).flatMap (rep 9 [38, 35, 48, 57, 59]) := cd_rp x _ _ (by decide +kernel) (by decide +kernel)
theorem k_D (x) : cd (rp x "\r" "&#xD;") = (cd x).flatMap (rep 13 [38, 35, 120, 68, 59]) := cd_rp x _ _ (by decide +kernel) (by decide +kernel)
theorem k_x9 (x) : cd (rp x "\t" "&#x9;") = (cd x).flatMap (rep 9 [38, 35, 120, 57, 59]) := cd_rp x _ _ (by decide +kernel) (by decide +kernel)
theorem k_xA (x) : cd (rp x "\n" "&#xA;") = (cd x).flatMap (rep 10 [38, 35, 120, 65, 59]) := cd_rp x _ _ (by decide +kernel) (by decide +kernel)

theorem cd_cdata (h : ∀ c ∈ cd x, c ∈ al) : cd (cdataF x) = pX 0 (cd x) := by
  unfold cdataF pX
  rw [k_gt, k_lt, k_amp, List.flatMap_assoc, List.flatMap_assoc]
  refine flat_congr fun c hc => ?_
  exact (by decide : ∀ c ∈ al, ((rep 38 amp c).flatMap fun c => (rep 60 lt c).flatMap (rep 62 gt)) = sp (tb 0) c) c (h c hc)
theorem cd_attrib (h : ∀ c ∈ cd x, c ∈ al) : cd (attribF x) = pX 1 (cd x) := by
  unfold attribF pX
  rw [k_9, k_10, k_13, k_quot, k_gt, k_lt, k_amp]
  simp only [List.flatMap_assoc]
  refine flat_congr fun c hc => ?_
  replace hc := h c hc
  revert c
  decide
theorem cd_html (h : ∀ c ∈ cd x, c ∈ al) : cd (htmlF x) = pX 2 (cd x) := by
  unfold htmlF pX
  rw [k_quot, k_gt, k_amp]
  simp only [List.flatMap_assoc]
  refine flat_congr fun c hc => ?_
  replace hc := h c hc
  revert c
  decide
theorem cd_cdC14 (h : ∀ c ∈ cd x, c ∈ al) : cd (cdC14F x) = pX 3 (cd x) := by
  unfold cdC14F pX
  rw [k_D, k_gt, k_lt, k_amp]
  simp only [List.flatMap_assoc]
  refine flat_congr fun c hc => ?_
  replace hc := h c hc
  revert c
  decide
theorem cd_atC14 (h : ∀ c ∈ cd x, c ∈ al) : cd (atC14F x) = pX 4 (cd x) := by
  unfold atC14F pX
  rw [k_D, k_xA, k_x9, k_quot, k_lt, k_amp]
  simp only [List.flatMap_assoc]
  refine flat_congr fun c hc => ?_
  replace hc := h c hc
  revert c
  decide
theorem cd_repr (h : ∀ c ∈ cd x, c ∈ al) : cd (reprText x) = pR (cd x) := by
  have hm : reprQuote x = markOf (cd x) := by
    unfold reprQuote markOf
    simp
  have h1 : ∀ (l : List Nat) (q : Nat) (acc : Array Nat), (l.foldl (fun out c => out ++ (Builtin.Str.reprChar q c).toArray) acc).toList = acc.toList ++ l.flatMap (Builtin.Str.reprChar q) := by
    intro l q
    induction l with
    | nil => intro acc; simp
    | cons c r ih => intro acc; rw [List.foldl_cons, ih]; simp
  unfold reprText pR
  rw [hm]
  show (Array.push _ _).toList = _
  rw [Array.toList_push, ← Array.foldl_toList, h1]
  congr 2
  refine flat_congr fun c hc => ?_
  have h2 : ∀ m ∈ [39, 34], ∀ c ∈ al, Builtin.Str.reprChar m c = sp (reTab m) c := by decide +kernel
  exact h2 _ (by rcases mark_or (cd x) with e | e <;> simp [e]) c (h c hc)
end
end Mine
end

section
/-! part: Search -/
open PySem PySem.W PyProof.Rows PySem.Calls
set_option maxRecDepth 100000
namespace Mine
open PySem.Sre PySem.Builtin.Re

def rcode : Array Nat := #[14, 17, 4, 1, 1, 21, 9, 0, 604043296, 1, 0, 0, 0, 0, 0, 8, 4, 0, 13, 14, 21, 9, 0, 604043296, 1, 0, 0, 0, 0, 0, 8, 4, 0, 1]
theorem inSet5 {c : Nat} (hc : c ∈ al) (seen : Sre.Seen) : ∃ s', Sre.inSet rcode c rcode.size 5 true seen = .ok (bad.contains c, s') := by
  simp only [al, L0, List.cons_append, List.nil_append, List.mem_cons, List.not_mem_nil, or_false] at hc
  rcases hc with rfl | rfl | rfl | rfl | rfl | rfl | rfl | rfl | rfl | rfl | rfl | rfl | rfl | rfl | rfl | rfl | rfl | rfl | rfl | rfl | rfl | rfl | rfl | rfl | rfl | rfl | rfl | rfl | rfl | rfl | rfl <;> exact ⟨_, rfl⟩
theorem inSet18 {c : Nat} (hc : c ∈ al) (seen : Sre.Seen) : ∃ s', Sre.accepts rcode 18 c seen = .ok (bad.contains c, s') := by
  simp only [al, L0, List.cons_append, List.nil_append, List.mem_cons, List.not_mem_nil, or_false] at hc
  rcases hc with rfl | rfl | rfl | rfl | rfl | rfl | rfl | rfl | rfl | rfl | rfl | rfl | rfl | rfl | rfl | rfl | rfl | rfl | rfl | rfl | rfl | rfl | rfl | rfl | rfl | rfl | rfl | rfl | rfl | rfl | rfl <;> exact ⟨_, rfl⟩

theorem adm_none {m : Sre.M} (hcode : m.code = rcode) (hall : ∀ i, i < m.lim → m.text.getD i 0 ∈ al) (hcalm : ∀ i, i < m.lim → bad.contains (m.text.getD i 0) = false) :
    ∀ (fuel s : Nat) (seen : Sre.Seen), ∃ s', Sre.M.admitted m fuel s seen = .ok (none, s')
  | 0, _, seen => ⟨seen, rfl⟩
  | fuel + 1, s, seen => by
    unfold Sre.M.admitted
    by_cases h : s ≥ m.lim
    · exact ⟨seen, by rw [if_pos h]⟩
    · rw [if_neg h, hcode]
      have hlt : s < m.lim := Nat.lt_of_not_le h
      obtain ⟨s1, e⟩ := inSet5 (hall s hlt) seen
      rw [e, hcalm s hlt]
      exact adm_none hcode hall hcalm fuel (s + 1) s1
theorem adm_some {m : Sre.M} (hcode : m.code = rcode) (hall : ∀ i, i < m.lim → m.text.getD i 0 ∈ al) :
    ∀ (fuel s : Nat) (seen : Sre.Seen), m.lim < fuel + s → (∃ i, s ≤ i ∧ i < m.lim ∧ bad.contains (m.text.getD i 0) = true) →
      ∃ j s', Sre.M.admitted m fuel s seen = .ok (some j, s') ∧ j < m.lim ∧ bad.contains (m.text.getD j 0) = true
  | 0, s, seen, hf, ⟨i, h1, h2, _⟩ => by omega
  | fuel + 1, s, seen, hf, ⟨i, h1, h2, h3⟩ => by
    unfold Sre.M.admitted
    have hlt : s < m.lim := by omega
    rw [if_neg (by omega), hcode]
    obtain ⟨s1, e⟩ := inSet5 (hall s hlt) seen
    rw [e]
    cases hb : bad.contains (m.text.getD s 0) with
    | true => exact ⟨s, s1, rfl, hlt, hb⟩
    | false =>
      refine adm_some hcode hall fuel (s + 1) s1 (by omega) ⟨i, ?_, h2, h3⟩
      rcases Nat.lt_or_ge s i with h | h
      · exact h
      · have : i = s := by omega
        subst this
        rw [hb] at h3; cases h3

def m0 (text : Array Nat) : Sre.M := { code := rcode, text, lim := text.size, start := 0, pc := 18, pos := 0, handed := 0, marks := Array.replicate (2 * 0) none, mustAdvance := false, lastStart := text.size, seen := ({} : Sre.Seen).add 14 }
theorem search_eq (text : Array Nat) (h : 0 < text.size) : Sre.forSearch rcode text 0 0 text.size false = (m0 text).attemptFrom 0 true := by
  have h1 : Sre.forSearch rcode text 0 0 text.size false = (if (decide (0 > text.size) || decide (text.size - 0 < 1)) = true then ({ m0 text with lastStart := 0 } : Sre.M).say false else (m0 text).attemptFrom 0 true) := rfl
  rw [h1, if_neg]
  intro hc
  rcases Bool.or_eq_true_iff.mp hc with h2 | h2 <;> (have := of_decide_eq_true h2; omega)
theorem from_eq (text : Array Nat) : (m0 text).attemptFrom 0 true = (match Sre.M.admitted (m0 text) ((m0 text).lim + 1 - 0) 0 (m0 text).seen with
      | .ok (some s, seen) => ({ m0 text with mustAdvance := false, seen } : Sre.M).attemptAt s true
      | .ok (none, seen) => ({ m0 text with seen } : Sre.M).say false
      | .error why => (m0 text).stick why) := rfl
theorem from_none (text : Array Nat) (hall : ∀ i, i < text.size → text.getD i 0 ∈ al) (hcalm : ∀ i, i < text.size → bad.contains (text.getD i 0) = false) :
    (((m0 text).attemptFrom 0 true).runFor 4).outcome = some .failed := by
  obtain ⟨s', e⟩ := adm_none (m := m0 text) rfl hall hcalm ((m0 text).lim + 1 - 0) 0 (m0 text).seen
  rw [from_eq, e]
  rfl
theorem from_some (text : Array Nat) (hall : ∀ i, i < text.size → text.getD i 0 ∈ al) (hbad : ∃ i, i < text.size ∧ bad.contains (text.getD i 0) = true) :
    (((m0 text).attemptFrom 0 true).runFor 4).outcome = some .matched := by
  obtain ⟨i, h1, h2⟩ := hbad
  obtain ⟨j, s', e, hj, hb⟩ := adm_some (m := m0 text) rfl hall ((m0 text).lim + 1 - 0) 0 (m0 text).seen (by show text.size < text.size + 1 - 0 + 0; omega) ⟨i, Nat.zero_le _, h1, h2⟩
  rw [from_eq, e]
  have hj' : j < text.size := hj
  let M1 : Sre.M := ({ m0 text with mustAdvance := false, seen := s' } : Sre.M).attemptAt j true
  obtain ⟨s2, e2⟩ := inSet18 (hall j hj') (s'.add 13)
  have hb' : bad.contains (text.getD j 0) = true := hb
  rw [hb'] at e2
  have st1 : M1.step = { M1 with seen := s2, pc := 33, pos := j + 1 } := by
    show (if j ≥ text.size then ({ M1 with seen := s'.add 13 } : Sre.M).say false else
      match Sre.accepts rcode 18 (text.getD j 0) (s'.add 13) with
      | .error why => ({ M1 with seen := s'.add 13 } : Sre.M).stick why
      | .ok (false, seen) => ({ M1 with seen } : Sre.M).say false
      | .ok (true, seen) => { M1 with seen, pc := 18 + Sre.itemWidth rcode 18, pos := j + 1 }) = _
    rw [if_neg (by omega), e2]
    rfl
  show (M1.runFor 4).outcome = _
  have r1 : M1.runFor 4 = M1.step.runFor 3 := rfl
  rw [r1, st1]
  rfl

theorem drive (m m' : Sre.M) (h : m.runFor 4 = m') (ho : m'.outcome.isSome = true) : reDrive (2 ^ 64) m = pure m' := by
  have e : (2 : Nat) ^ 64 = 18446744073709551615 + 1 := by decide +kernel
  rw [e]
  unfold reDrive
  show (if (m.runFor 4).outcome.isSome then pure (m.runFor 4) else _) = _
  rw [h, if_pos ho]

section
variable {prog : Program} {w : World} {M : Model} {A : Around} {E : Value → Shared → Prop} {s : Shared}
theorem rules_wp {β : Type} {p : Nat → Bool} {f : Nat → String} {Q : PUnit → Shared → Prop} : ∀ (l : List Nat), Q PUnit.unit s →
    wpAny M A (forIn l PUnit.unit (fun i _ => do
      if p i then rule (f i)
      pure (ForInStep.yield PUnit.unit))) Q E s
  | [], h => by
    rw [List.forIn_nil]
    exact wpAny_pure h
  | i :: r, h => by
    rw [List.forIn_cons]
    refine wpAny_bind ?_
    cases p i
    · exact wpAny_pure (rules_wp (β := β) r h)
    · exact wpAny_bind (wpAny_rule (wpAny_pure (rules_wp (β := β) r h)))
theorem toEnd_none {m m' : Sre.M} {Q : Option Sre.M → Shared → Prop} (h : m.runFor 4 = m') (ho : m'.outcome = some .failed) (hq : Q none s) : wpAny M A (reRunToEnd m) Q E s := by
  unfold reRunToEnd
  rw [drive m m' h (by rw [ho]; rfl)]
  refine wpAny_bind (wpAny_pure (wpAny_bind (rules_wp (β := Unit) _ ?_)))
  rw [ho]
  exact wpAny_pure hq
theorem toEnd_some {m m' : Sre.M} {Q : Option Sre.M → Shared → Prop} (h : m.runFor 4 = m') (ho : m'.outcome = some .matched) (hq : Q (some m') s) : wpAny M A (reRunToEnd m) Q E s := by
  unfold reRunToEnd
  rw [drive m m' h (by rw [ho]; rfl)]
  refine wpAny_bind (wpAny_pure (wpAny_bind (rules_wp (β := Unit) _ ?_)))
  rw [ho]
  exact wpAny_pure hq
end

def codeVals : Array Value := #[.int 14 0, .int 17 0, .int 4 0, .int 1 0, .int 1 0, .int 21 0, .int 9 0, .int 0 0, .int 604043296 0, .int 1 0, .int 0 0, .int 0 0, .int 0 0, .int 0 0, .int 0 0, .int 8 0, .int 4 0, .int 0 0, .int 13 0, .int 14 0, .int 21 0, .int 9 0, .int 0 0, .int 604043296 0, .int 1 0, .int 0 0, .int 0 0, .int 0 0, .int 0 0, .int 0 0, .int 8 0, .int 4 0, .int 0 0, .int 1 0]
theorem code_vals : (codeVals.map reRawOf).map (·.toNat) = rcode := by decide +kernel

section
variable {prog : Program} {w : World} {M : Model} {A : Around} {E : Value → Shared → Prop} {s : Shared}
theorem named_one (x : PySem.Str) (t : Tok) : reNamed "re.Pattern.search" "search" ["string", "pos", "endpos"] 1 [.str x t] [] = pure [some (.str x t), none, none] := by
  first | rfl | kernel_rfl

theorem target_wp {x : PySem.Str} {t : Tok} {o78 o77 : Obj} {n : Nat} {f0 f1 f3 f4 : Value} {Q : ReTarget → Shared → Prop} (h78 : s.heap.get? 78 = some o78) (d78 : o78.data = .fields #[f0, f1, .int 0 0, f3, f4, .ref 77, .int 0 0])
    (h77 : s.heap.get? 77 = some o77) (d77 : o77.data = .seq codeVals n) (hx : x.length ≤ 16777216)
    (h : Q { pattern := .ref 78, string := .str x t, code := rcode, text := x.cps, kind := 0, groups := 0, pos := 0, lim := x.cps.size } s) :
    wpAny M A (reTarget "re.Pattern.search" "search" ⟨[.ref 78, .str x t], []⟩) Q E s := by
  unfold reTarget
  refine wpAny_bind (wpAny_of_eq (named_one x t) ?_)
  refine wpAny_bind (wpAny_pure ?_)
  refine wpAny_bind (wpAny_pure ?_)
  refine wpAny_bind (wpAny_fieldsOf h78 d78 ?_)
  refine wpAny_bind (wpAny_of_eq (a := (x.cps, 0)) rfl ?_)
  refine wpAny_bind (wpAny_of_eq (a := ()) rfl ?_)
  show wpAny M A (reRawItems (.ref 77) >>= fun c => pure _) Q E s
  unfold reRawItems
  refine wpAny_bind (wpAny_bind ?_)
  simp only [seqItems?]
  refine wpAny_bind (wpAny_load h77 ?_)
  rw [d77]
  refine wpAny_pure (wpAny_pure (wpAny_pure ?_))
  show Q { pattern := Value.ref 78, string := Value.str x t, code := (codeVals.map reRawOf).map (·.toNat), text := x.cps, kind := 0, groups := 0, pos := min 0 x.cps.size, lim := min (2 ^ 63 - 1 : Int).toNat x.cps.size } s
  rw [code_vals, Nat.zero_min, Nat.min_eq_right]
  · exact h
  · have : x.cps.size ≤ 16777216 := hx
    have e : (2 ^ 63 - 1 : Int).toNat = 9223372036854775807 := by decide
    rw [e]; omega
theorem search_wp {x : PySem.Str} {t : Tok} {o78 o77 : Obj} {n : Nat} {f0 f1 f3 f4 : Value} {Q : Fin → Shared → Prop} (h78 : s.heap.get? 78 = some o78) (d78 : o78.data = .fields #[f0, f1, .int 0 0, f3, f4, .ref 77, .int 0 0])
    (h77 : s.heap.get? 77 = some o77) (d77 : o77.data = .seq codeVals n) (hx : x.length ≤ 16777216) (h0 : 0 < x.length) (hal : ∀ c ∈ cd x, c ∈ al)
    (hn : calm (cd x) = true → Q (.done (.ret .none)) s)
    (hs : calm (cd x) = false → ∀ o1 o2, Q (.done (.ret (.ref (s.heap.objs.size + 1)))) { s with heap := (s.heap.push o1).push o2 }) :
    wpAny M A (Builtin.«re.Pattern.search» ⟨[.ref 78, .str x t], []⟩) Q E s := by
  unfold Builtin.«re.Pattern.search»
  refine wpAny_bind (target_wp h78 d78 h77 d77 hx ?_)
  dsimp only
  rw [search_eq x.cps h0]
  have hall : ∀ i, i < x.cps.size → x.cps.getD i 0 ∈ al := fun i hi => hal _ (by
    have : x.cps.getD i 0 = x.cps[i] := by simp [Array.getD, hi]
    rw [this]; simp)
  unfold reAnswer
  cases hc : calm (cd x) with
  | true =>
    refine wpAny_bind (toEnd_none rfl (from_none x.cps hall fun i hi => ?_) (wpAny_pure (hn hc)))
    have h1 : x.cps.getD i 0 ∈ cd x := by
      have : x.cps.getD i 0 = x.cps[i] := by simp [Array.getD, hi]
      rw [this]; simp
    have := List.all_eq_true.mp hc _ h1
    simpa using this
  | false =>
    have hb : ∃ i, i < x.cps.size ∧ bad.contains (x.cps.getD i 0) = true := by
      obtain ⟨c, hc1, hc2⟩ := List.all_eq_false.mp hc
      obtain ⟨i, hi, e⟩ := List.getElem_of_mem hc1
      have hi' : i < x.cps.size := by simpa using hi
      refine ⟨i, hi', ?_⟩
      have : x.cps.getD i 0 = c := by simp [Array.getD, hi', ← e]
      rw [this]
      simpa using hc2
    refine wpAny_bind (toEnd_some rfl (from_some x.cps hall hb) ?_)
    unfold reNewMatch
    dsimp only
    refine wpAny_bind ?_
    generalize ((m0 x.cps).attemptFrom 0 true).runFor 4 = mm
    rw [List.range_zero, List.any_nil, List.flatMap_nil, if_neg Bool.false_ne_true]
    refine wpAny_bind (wpAny_newObj_type (wpAny_newObj_type (wpAny_pure ?_) ?_) ?_)
    · have := hs hc { cls := .type "tuple", dict := none, data := .seq [rawInt mm.start, rawInt mm.handed].toArray } { cls := .type "re.Match", dict := none, data := .fields [Value.str x t, Value.ref 78, rawInt ((0 : Nat) : Int), rawInt x.cps.size, rawInt mm.lastindex, .ref s.heap.objs.size].toArray }
      simpa only [Heap.size_push] using this
    · simp [sizeOk, sizeLine]
    · simp [sizeOk, sizeLine]

theorem entry_search : entryFor table "re.Pattern.search" = some Builtin.«re.Pattern.search» := entryFor_of_tree (by kernel_rfl)
theorem quiet_search {as : Args} : (Code.builtin "re.Pattern.search" as).quiet = true := Code.quiet_builtin _ (by decide +kernel)
theorem sig_search : ∃ sg, Manifest.signature? "re.Pattern.search" = some sg := Option.isSome_iff_exists.mp (by decide +kernel)

theorem args_search {x : PySem.Str} {t : Tok} {sg : Manifest.Signature} (h : Manifest.signature? "re.Pattern.search" = some sg) :
    Bind.checkArgs "re.Pattern.search" { sg with full := s!"{Bind.lastOf "re.Pattern"}.{Bind.lastOf "re.Pattern.search"}" } ⟨[.ref 78, .str x t], []⟩ = pure () := by
  have h2 : (match Manifest.signature? "re.Pattern.search" with
    | some sg => Bind.checkArgs "re.Pattern.search" { sg with full := s!"{Bind.lastOf "re.Pattern"}.{Bind.lastOf "re.Pattern.search"}" } ⟨[.ref 78, .str x t], []⟩
    | none => pure ()) = pure () := by kernel_rfl
  rw [h] at h2
  exact h2
theorem check_search {x : PySem.Str} {t : Tok} {o78 : Obj} {vs : Array Value} {Q : Unit → Shared → Prop} (h78 : s.heap.get? 78 = some o78) (c78 : o78.cls = .type "re.Pattern") (d78 : o78.data = .fields vs) (h : Q () s) :
    wpAny M A (checkBoundCall "re.Pattern.search" ⟨[.ref 78, .str x t], []⟩) Q E s := by
  obtain ⟨sg, hsg⟩ := sig_search
  have ha := args_search (x := x) (t := t) hsg
  unfold checkBoundCall
  rw [hsg, show builtinKind "re.Pattern.search" = some .method by decide +kernel]
  dsimp only
  refine KFB.if_not (by decide) ?_
  refine wpAny_bind (wpAny_isInstance (T := "re.Pattern") (b := false) ⟨o78, h78, c78⟩ (by rw [isSubtype_type]; kernel_rfl) ?_)
  refine KFB.if_not (by rw [show Manifest.varargsMethods.contains "re.Pattern.search" = false by decide +kernel]; rfl) ?_
  simp only [isType]
  refine wpAny_bind (wpAny_bind (wpAny_load h78 (wpAny_pure ?_)))
  rw [d78]
  refine KFB.if_not rfl ?_
  refine wpAny_bind (wpAny_typeOf (T := "re.Pattern") ⟨o78, h78, c78⟩ ?_)
  exact wpAny_of_eq ha h

theorem find_wp {x : PySem.Str} {t : Tok} {o79 o78 o77 : Obj} {n : Nat} {f0 f1 f3 f4 : Value} {Q : Value → Shared → Prop}
    (h79 : s.heap.get? 79 = some o79) (c79 : o79.cls = .type "builtin_function_or_method") (d79 : o79.data = .fields #[.builtin "re.Pattern.search", .ref 78])
    (h78 : s.heap.get? 78 = some o78) (c78 : o78.cls = .type "re.Pattern") (d78 : o78.data = .fields #[f0, f1, .int 0 0, f3, f4, .ref 77, .int 0 0])
    (h77 : s.heap.get? 77 = some o77) (d77 : o77.data = .seq codeVals n) (hx : x.length ≤ 16777216) (h0 : 0 < x.length) (hal : ∀ c ∈ cd x, c ∈ al)
    (hn : calm (cd x) = true → Q .none s)
    (hs : calm (cd x) = false → ∀ o1 o2, Q (.ref (s.heap.objs.size + 1)) { s with heap := (s.heap.push o1).push o2 }) :
    wpAny (model prog w) A (call (.ref 79) [.str x t]) Q E s := by
  refine wpAny_call (codeAny_of_tree ?_)
  show wpAny _ A.in1 (callAny (.ref 79) ⟨[.str x t], []⟩) _ _ s
  simp only [callAny]
  refine wpAny_bind (wpAny_load h79 ?_)
  rw [d79, c79]
  dsimp only
  refine KFB.if_so (by decide) ?_
  refine KFB.if_so (by decide) ?_
  refine wpAny_bind (check_search h78 c78 d78 ?_)
  refine wpAny_bind (wpAny_pure (wpAny_pure ?_))
  refine ⟨quiet_search, codeAny_builtin entry_search (search_wp h78 d78 h77 d77 hx h0 hal hn hs)⟩
end
end Mine
end

section
/-! part: Hd -/
open PySem PySem.W PyProof.Rows
set_option maxRecDepth 100000
set_option maxHeartbeats 8000000
namespace Mine
open_top hd for PySem.Challenge.rw_in0207_01
end Mine
end

section
/-! part: Contr -/
open PySem PySem.W PyProof.Rows PySem.Calls
set_option maxRecDepth 100000
set_option maxHeartbeats 8000000
namespace Mine

abbrev Cl (dn : Nat) (prog : Program) (w : World) (K : Frag) (p : Program) (loose : List Str) (mean : ExcName → Option Value) (mg mb : Str → Option Value) (f : Addr) (news : List (Addr × Obj)) (pre : Prop) (vs : List Value) (R : Tok → Value) : Prop :=
  ∀ (dp un : Nat) (gd : Option (List Code)) (cn : Str) (cs : Scope) (a : Addr) (ccd : Value) (cl : List (Str × Addr)) (outer : List Env) (A₀ : Around) (base h₀ : Heap) (L : Addr) (m : Str → Option Value) (s : Shared) (Q E : Value → Shared → Prop),
    Below A₀ base outer h₀ → Fr h₀ L s.heap m → K.In h₀ → News h₀ L s.heap news → Top p loose mean mg mb h₀ → cs.kind = .function →
    pre → dp + dn < recursionLimit → un + 8 * dn < cLine → CbRet h₀ L m news s Q R → wpAny (model prog w) (ktrTop dp un gd cn cs L a ccd cl outer) (call (.ref f) vs) Q E s
theorem use_claim {dn : Nat} {prog : Program} {w : World} {K : Frag} {p : Program} {loose : List Str} {mean : ExcName → Option Value} {mg mb : Str → Option Value} {f : Addr} {news : List (Addr × Obj)} {pre : Prop} {vs : List Value} {R : Tok → Value}
    (C : Cl dn prog w K p loose mean mg mb f news pre vs R) {dp un : Nat} {gd : Option (List Code)} {cn : Str} {cs : Scope} {a : Addr} {ccd : Value} {cl : List (Str × Addr)} {outer : List Env} {A₀ : Around} {base h₀ : Heap} {L : Addr} {m : Str → Option Value} {s : Shared} {Q E : Value → Shared → Prop}
    (B : Below A₀ base outer h₀) (F : Fr h₀ L s.heap m) (X : K.In h₀) (N : News h₀ L s.heap news) (T : Top p loose mean mg mb h₀) (hk : cs.kind = .function) (hp : pre) (hd : dp + dn < recursionLimit) (hu : un + 8 * dn < cLine)
    (h : ∀ t h' tk', Fr h₀ L h' m → News h₀ L h' news → Q (R t) { s with heap := h', toks := tk' }) : wpAny (model prog w) (ktrTop dp un gd cn cs L a ccd cl outer) (call (.ref f) vs) Q E s :=
  C dp un gd cn cs a ccd cl outer A₀ base h₀ L m s Q E B F X N T hk hp hd hu h
section
variable {prog : Program} {w : World} {A : Around} {E : Value → Shared → Prop} {s : Shared} {h₀ : Heap} {L a : Addr} {m : PySem.Str → Option Value} {news : List (Addr × Obj)} {cn : PySem.Str} {cs : Scope} {cdv : Value}
theorem occ_in (x : PySem.Str) (y : PySem.Str) (hy : y.length = 1) : (!(Builtin.Str.occurrences x y 0 x.length 1).isEmpty) = decide (y.cps.getD 0 0 ∈ cd x) := by
  obtain ⟨⟨l⟩⟩ := y
  have h1 : l.length = 1 := hy
  match l, h1 with
  | [k], _ => exact StrLaws.found_one x k
theorem one_eq (y : PySem.Str) (hy : y.length = 1) : y = ⟨#[y.cps.getD 0 0]⟩ := by
  obtain ⟨⟨l⟩⟩ := y
  have h1 : l.length = 1 := hy
  match l, h1 with
  | [k], _ => rfl

def wt (l : List Nat) (c : Nat) : Nat := if l.contains c then 6 else 1
def wl (l x : List Nat) : Nat := (x.map (wt l)).sum
def Wt (l : List Nat) (x : PySem.Str) : Nat := wl l (cd x)
theorem wl_append (l x y : List Nat) : wl l (x ++ y) = wl l x + wl l y := by simp [wl]
theorem wl_cons (l : List Nat) (c : Nat) (x : List Nat) : wl l (c :: x) = wt l c + wl l x := by simp [wl]
theorem wl_len (l x : List Nat) : x.length ≤ wl l x := by
  induction x with
  | nil => exact Nat.le_refl _
  | cons c r ih => rw [wl_cons, List.length_cons]; have : 1 ≤ wt l c := by unfold wt; split <;> omega
                   omega
theorem wl_le (l x : List Nat) : wl l x ≤ 6 * x.length := by
  induction x with
  | nil => exact Nat.le_refl _
  | cons c r ih => rw [wl_cons, List.length_cons]; have : wt l c ≤ 6 := by unfold wt; split <;> omega
                   omega
theorem wl_free {l z : List Nat} (h : z.all (fun d => !l.contains d) = true) : wl l z = z.length := by
  induction z with
  | nil => rfl
  | cons c r ih =>
    rw [List.all_cons, Bool.and_eq_true] at h
    rw [wl_cons, ih h.2, List.length_cons]
    have : wt l c = 1 := by unfold wt; rw [if_neg]; simpa using h.1
    omega
theorem wl_step {l z : List Nat} {k : Nat} (hz : z.all (fun d => !l.contains d) = true) (hl : z.length ≤ 6) (x : List Nat) : wl l (x.flatMap (rep k z)) ≤ wl (k :: l) x := by
  induction x with
  | nil => exact Nat.le_refl _
  | cons c r ih =>
    rw [List.flatMap_cons, wl_append, wl_cons]
    have : wl l (rep k z c) ≤ wt (k :: l) c := by
      unfold rep
      by_cases h : c = k
      · rw [if_pos h, wl_free hz]
        have : wt (k :: l) c = 6 := by unfold wt; rw [if_pos]; simp [h]
        omega
      · rw [if_neg h, wl_cons]
        have h1 : wt l c ≤ wt (k :: l) c := by
          unfold wt
          by_cases h2 : l.contains c = true
          · rw [if_pos h2, if_pos]
            · exact Nat.le_refl _
            · simp only [List.contains_cons, h2, Bool.or_true]
          · rw [if_neg h2]; split <;> omega
        simpa [wl] using h1
    omega
theorem Wt_step {l : List Nat} {k : Nat} {x z : PySem.Str} (hz : (cd z).all (fun d => !l.contains d) = true) (hl : (cd z).length ≤ 6) : Wt l (Txt.replace x ⟨#[k]⟩ z) ≤ Wt (k :: l) x := by
  unfold Wt
  rw [cd_replace]
  exact wl_step hz hl _
theorem Wt_len (l : List Nat) (x : PySem.Str) : x.length ≤ Wt l x := by
  have := wl_len l (cd x)
  have e : (cd x).length = x.length := by simp [cd, PySem.Str.length]
  unfold Wt; omega
theorem Wt_le (l : List Nat) (x : PySem.Str) : Wt l x ≤ 6 * x.length := by
  have := wl_le l (cd x)
  have e : (cd x).length = x.length := by simp [cd, PySem.Str.length]
  unfold Wt; omega

def RepPost (h₀ : Heap) (L : Addr) (m : PySem.Str → Option Value) (news : List (Addr × Obj)) (s : Shared) (n x c z : PySem.Str) (f : Flow) (s' : Shared) : Prop :=
  f = .next ∧ ∃ t' h' tk', s' = { s with heap := h', toks := tk' } ∧ Fr h₀ L h' (fun y => if y = n then some (.str (Txt.replace x c z) t') else m y) ∧ News h₀ L h' news
theorem RepPost.intro {n x c z : PySem.Str} {h' : Heap} {tk' : Nat} {t' : Tok} (F : Fr h₀ L h' (fun y => if y = n then some (.str (Txt.replace x c z) t') else m y)) (N : News h₀ L h' news) :
    RepPost h₀ L m news s n x c z .next { s with heap := h', toks := tk' } := ⟨rfl, _, _, _, rfl, F, N⟩
theorem if_rep {n rp x c z c' : PySem.Str} {k : Nat} {l : List Nat} {t : Tok} {k1 k2 k3 : Nat} {p1 p2 p3 p4 p5 p6 p7 p8 p9 p10 p11 : Pos} {Q : Flow → Shared → Prop}
    (F : Fr h₀ L s.heap m) (N : News h₀ L s.heap news) (hm : m n = some (.str x t)) (hw : Wt (k :: l) x ≤ 100000) (hc : c = ⟨#[k]⟩) (hz : (cd z).all (fun d => !l.contains d) = true) (hzl : (cd z).length ≤ 6)
    (hk : cs.kind = .function) (hl : (envOf cn cs L a cdv).kindOf n = some .local) (hd : (n == ("__debug__" : PySem.Str)) = false)
    (hb : behindInMarks .In (PySem.Expr.Name n p2) = false)
    (body : ∀ tk, 0 < tk → x.length ≤ 100000 → wpAny (model prog w) A (execs [Stmt.Assign [PySem.Expr.Name n p4] (PySem.Expr.Call (PySem.Expr.Attribute (PySem.Expr.Name n p5) rp p6) [PySem.Expr.Constant (Const.str c') k2 p7, PySem.Expr.Constant (Const.str z) k3 p8] [] p9) p10] (envOf cn cs L a cdv)) (RepPost h₀ L m news s n x c z) E { s with toks := tk })
    (h : ∀ t' h' tk', Fr h₀ L h' (fun y => if y = n then some (.str (Txt.replace x c z) t') else m y) → News h₀ L h' news → Wt l (Txt.replace x c z) ≤ 100000 → Q .next { s with heap := h', toks := tk' }) :
    wpAny (model prog w) A (exec (Stmt.If (PySem.Expr.Compare (PySem.Expr.Constant (Const.str c) k1 p1) [CmpOp.In] [PySem.Expr.Name n p2] p3)
      [Stmt.Assign [PySem.Expr.Name n p4] (PySem.Expr.Call (PySem.Expr.Attribute (PySem.Expr.Name n p5) rp p6) [PySem.Expr.Constant (Const.str c') k2 p7, PySem.Expr.Constant (Const.str z) k3 p8] [] p9) p10] [] p11) (envOf cn cs L a cdv)) Q E s := by
  refine wpAny_If ?_
  refine wpAny_isTrue_Compare1 ?_ hb
  refine Calls.Constant_str ?_
  refine ld F hm ?_ hk hl hd
  refine in_str ?_
  refine wpAny_truthy_bool ?_
  have hW' : Wt l (Txt.replace x c z) ≤ 100000 := by rw [hc]; exact Nat.le_trans (Wt_step hz hzl) hw
  have hx := Nat.le_trans (Wt_len _ x) hw
  have hc1 : c.length = 1 := by rw [hc]; rfl
  rw [occ_in x _ hc1]
  by_cases hin : c.cps.getD 0 0 ∈ cd x
  · rw [if_pos (decide_eq_true hin)]
    refine wpAny_mono (body (s.toks + 1) (Nat.succ_pos _) hx) (fun f s' hp => ?_) fun _ _ e => e
    obtain ⟨rfl, t', h', tk', rfl, F', N'⟩ := hp
    exact h t' h' tk' F' N' hW'
  · rw [if_neg (by rw [decide_eq_false hin]; exact Bool.false_ne_true)]
    refine wpAny_execs_nil ?_
    have e : Txt.replace x c z = x := by rw [one_eq c hc1]; exact replace_free x _ _ hin
    have e2 : (fun y => if y = n then some (.str (Txt.replace x c z) t) else m y) = m := by
      funext y
      by_cases hy : y = n
      · rw [if_pos hy, e, hy, hm]
      · rw [if_neg hy]
    exact h t s.heap (s.toks + 1) (by rw [e2]; exact F) N hW'
end
theorem words_Contr1 : True := by
  k_with_none
  (k_with "RepPost" => exact RepPost.intro (by k_asm) (by k_asm))
  (k_with "exec If" => (k_here; (with_reducible show wpAny _ _ (exec (Stmt.If (PySem.Expr.Compare (PySem.Expr.Constant (Const.str _) _ _) [CmpOp.In] [PySem.Expr.Name _ _] _) [Stmt.Assign _ (PySem.Expr.Call (PySem.Expr.Attribute _ _ _) _ _ _) _] [] _) _) _ _ _); k_dflt (refine' if_rep ?rF ?rN ?rm ?rw ?rc ?rz ?ry ?rk ?rl ?rd ?rb (fun tk' htk' hx' => ?_) (fun t' h' tk' F' N' hW' => ?_); (case rF => k_asm); (case rN => k_asm); (case rm => exact rfl); (case rw => assumption); (case rc => decide +kernel); (case rz => decide +kernel); (case ry => decide +kernel); (case rk => exact rfl); (case rl => exact rfl); (case rd => decide); (case rb => with_unfolding_all rfl))))
  (k_with "call builtin:str.replace" => (k_here; (refine SC.replaceW (by (show @Ne Nat _ _); omega) (by (show @Ne Nat _ _); omega) (by (show @Ne Nat _ _); omega) (by decide +kernel) (by omega) (by decide +kernel) ?_); intro _ _))
  trivial
local macro_rules | `(tactic| walk_at $s:str) => `(tactic| k_extra $s)
theorem cdata_claim (w : World) (p : Program) (loose : List Str) (mean : ExcName → Option Value) (mg mb : Str → Option Value) (news : List (Addr × Obj)) (x : Str) (t : Tok) : Cl 1 PySem.Challenge.rw_in0207_01.row.prog w (hd.heap_39 w.params) p loose mean mg mb 45 news (x.length ≤ 10000) [.str x t] (fun t => .str (cdataF x) t) := by
  w_strict (
  k_fill
  dsimp only [Cl, CbRet]; intros; rename_i hx _ _ hret
  have hW : Wt [38, 60, 62] x ≤ 100000 := Nat.le_trans (Wt_le _ x) (by omega)
  refine wpAny_call ?_
  k_dflt cell_enter
  k_steps
  all_goals cb_end hret)
theorem attrib_claim (w : World) (p : Program) (loose : List Str) (mean : ExcName → Option Value) (mg mb : Str → Option Value) (news : List (Addr × Obj)) (x : Str) (t : Tok) : Cl 1 PySem.Challenge.rw_in0207_01.row.prog w (hd.heap_39 w.params) p loose mean mg mb 52 news (x.length ≤ 10000) [.str x t] (fun t => .str (attribF x) t) := by
  w_strict (
  k_fill
  dsimp only [Cl, CbRet]; intros; rename_i hx _ _ hret
  have hW : Wt [38, 60, 62, 34, 13, 10, 9] x ≤ 100000 := Nat.le_trans (Wt_le _ x) (by omega)
  refine wpAny_call ?_
  k_dflt cell_enter
  k_steps
  all_goals cb_end hret)
theorem html_claim (w : World) (p : Program) (loose : List Str) (mean : ExcName → Option Value) (mg mb : Str → Option Value) (news : List (Addr × Obj)) (x : Str) (t : Tok) : Cl 1 PySem.Challenge.rw_in0207_01.row.prog w (hd.heap_39 w.params) p loose mean mg mb 59 news (x.length ≤ 10000) [.str x t] (fun t => .str (htmlF x) t) := by
  w_strict (
  k_fill
  dsimp only [Cl, CbRet]; intros; rename_i hx _ _ hret
  have hW : Wt [38, 62, 34] x ≤ 100000 := Nat.le_trans (Wt_le _ x) (by omega)
  refine wpAny_call ?_
  k_dflt cell_enter
  k_steps
  all_goals cb_end hret)
theorem cdC14_claim (w : World) (p : Program) (loose : List Str) (mean : ExcName → Option Value) (mg mb : Str → Option Value) (news : List (Addr × Obj)) (x : Str) (t : Tok) : Cl 1 PySem.Challenge.rw_in0207_01.row.prog w (hd.heap_39 w.params) p loose mean mg mb 66 news (x.length ≤ 10000) [.str x t] (fun t => .str (cdC14F x) t) := by
  w_strict (
  k_fill
  dsimp only [Cl, CbRet]; intros; rename_i hx _ _ hret
  have hW : Wt [38, 60, 62, 13] x ≤ 100000 := Nat.le_trans (Wt_le _ x) (by omega)
  refine wpAny_call ?_
  k_dflt cell_enter
  k_steps
  all_goals cb_end hret)
theorem atC14_claim (w : World) (p : Program) (loose : List Str) (mean : ExcName → Option Value) (mg mb : Str → Option Value) (news : List (Addr × Obj)) (x : Str) (t : Tok) : Cl 1 PySem.Challenge.rw_in0207_01.row.prog w (hd.heap_39 w.params) p loose mean mg mb 73 news (x.length ≤ 10000) [.str x t] (fun t => .str (atC14F x) t) := by
  w_strict (
  k_fill
  dsimp only [Cl, CbRet]; intros; rename_i hx _ _ hret
  have hW : Wt [38, 60, 34, 9, 10, 13] x ≤ 100000 := Nat.le_trans (Wt_le _ x) (by omega)
  refine wpAny_call ?_
  k_dflt cell_enter
  k_steps
  all_goals cb_end hret)
end Mine
end

section
/-! part: Contr2 -/
open PySem PySem.W PyProof.Rows PySem.Calls
set_option maxRecDepth 100000
set_option maxHeartbeats 8000000
namespace Mine

theorem words_Contr21 : True := by
  k_with_none
  (k_with "call ref" => (k_here; (with_reducible show wpAny _ _ (call (Value.ref _) [Value.str _ _]) _ _ _); k_dflt ((first | refine' use_claim (cdata_claim _ _ _ _ _ _ _ _ _ ) ?uB ?uF ?uX ?uN ?uT ?uk ?up ?ud ?uu (fun t' h' tk' F' N' => ?_) | refine' use_claim (attrib_claim _ _ _ _ _ _ _ _ _ ) ?uB ?uF ?uX ?uN ?uT ?uk ?up ?ud ?uu (fun t' h' tk' F' N' => ?_) | refine' use_claim (html_claim _ _ _ _ _ _ _ _ _ ) ?uB ?uF ?uX ?uN ?uT ?uk ?up ?ud ?uu (fun t' h' tk' F' N' => ?_) | refine' use_claim (cdC14_claim _ _ _ _ _ _ _ _ _ ) ?uB ?uF ?uX ?uN ?uT ?uk ?up ?ud ?uu (fun t' h' tk' F' N' => ?_) | refine' use_claim (atC14_claim _ _ _ _ _ _ _ _ _ ) ?uB ?uF ?uX ?uN ?uT ?uk ?up ?ud ?uu (fun t' h' tk' F' N' => ?_)); (case uB => k_asm); (case uF => k_asm); (case uX => k_asm); (case uN => k_asm); (case uT => k_asm); (case uk => first | exact rfl | assumption); (case up => assumption); (case ud => ktr_room); (case uu => ktr_units))))
  trivial
local macro_rules | `(tactic| walk_at $s:str) => `(tactic| k_extra $s)
theorem esc_claim (w : World) (p : Program) (loose : List Str) (mean : ExcName → Option Value) (mg mb : Str → Option Value) (news : List (Addr × Obj)) (T : Int) (tT : Tok) (x : Str) (t : Tok) :
  Cl 3 PySem.Challenge.rw_in0207_01.row.prog w (hd.heap_39 w.params) p loose mean mg mb 113 news (x.length ≤ 10000) [.int T tT, .str x t] (fun t => .str (escF T x) t) := by
  w_strict (
  k_fill
  dsimp only [Cl, CbRet]; intros; rename_i hx _ _ hret
  refine wpAny_call ?_
  k_dflt cell_enter
  k_steps
  all_goals (refine cb_retS hret ?_ (by k_asm) (by k_asm))
  all_goals (unfold escF; simp_all))
end Mine
end

section
/-! part: Contr3 -/
open PySem PySem.W PyProof.Rows PySem.Calls
set_option maxRecDepth 100000
set_option maxHeartbeats 8000000
namespace Mine

def quoteF (x : PySem.Str) : PySem.Str := if x.length = 0 then PySem.Str.ofString "''" else if calm (cd x) = true then x else PySem.Str.ofString "'" ++ rp x "'" "'\"'\"'" ++ PySem.Str.ofString "'"
def oFind : Obj := { cls := .type "builtin_function_or_method", data := .fields #[.builtin "re.Pattern.search", .ref 78] }
def oPat : Obj := { cls := .type "re.Pattern", data := .fields #[.str (PySem.Str.ofString "[^\\w@%+=:,./-]") 329, .int 256 366, .int 0 0, .none, .none, .ref 77, .int 0 0] }
def oCode : Obj := { cls := .type "tuple", data := .seq codeVals }
section
variable {prog : Program} {w : World} {M : Model} {A : Around} {E : Value → Shared → Prop} {s : Shared} {K : Frag} {h₀ : Heap} {L : Addr} {m : PySem.Str → Option Value} {news : List (Addr × Obj)}
theorem keeps_79 (h79 : K.lookup 79 = some oFind) (h : Heap) (X : K.In h) : ∃ k, (k = Keeper.frame ∨ k = Keeper.machine ∨ k = Keeper.boundFrame) ∧ Looks M h (keeperOf (.ref 79)) k :=
  ⟨.machine, .inr (.inl rfl), (Looks.ld (part := none) (X _ _ h79)).andThen .now⟩
theorem callWith_79 {pos : Pos} {env : Env} {first : List Value} {e : PySem.Expr} {rest : List PySem.Expr} {Q : Value → Shared → Prop} (_X : K.In h₀) (h79 : K.lookup 79 = some oFind) (h : wpAny M A (spliced (backTo pos (starEach (e :: rest) env))) (fun vs s₁ => K.In s₁.heap ∧ wpAny M A (call (.ref 79) (first ++ vs)) Q E s₁) E s)
    (he : starEach (e :: rest) env = (false, eval e env) :: starEach rest env := by rfl) (hplain : (backTo pos (starEach rest env)).any (·.1) = false := by rfl) :
    wpAny M A (callWith pos (.ref 79) first (backTo pos (starEach (e :: rest) env)) []) Q E s := by
  rw [he] at h ⊢
  exact callWith_of (by show ((false || (backTo pos (starEach rest env)).any (·.1)) || false) = false; rw [hplain]; rfl) (keeps_79 h79) (evalArgs_plain h)
theorem find_K {x : PySem.Str} {t : Tok} {Q : Value → Shared → Prop} (X₀ : K.In h₀) (F : Fr h₀ L s.heap m) (N : News h₀ L s.heap news) (h79 : K.lookup 79 = some oFind) (h78 : K.lookup 78 = some oPat) (h77 : K.lookup 77 = some oCode)
    (hx : x.length ≤ 10000) (h0 : 0 < x.length) (hal : ∀ c ∈ cd x, c ∈ al)
    (h : (calm (cd x) = true → Q .none s) ∧ (calm (cd x) = false → ∀ r h', Fr h₀ L h' m → News h₀ L h' news → Q (.ref r) { s with heap := h' })) :
    wpAny (model prog w) A (call (.ref 79) [.str x t]) Q E s := by
  have X := X₀.keeps F.keep
  refine find_wp (X _ _ h79) rfl rfl (X _ _ h78) rfl rfl (X _ _ h77) rfl (by omega) h0 hal h.1 fun hc o1 o2 => ?_
  exact h.2 hc _ _ ((F.push _).push _) ((N.grown fun _ _ e => Heap.get?_push_of_some _ e).grown fun _ _ e => Heap.get?_push_of_some _ e)
end
theorem words_Contr31 : True := by
  k_with_none
  (k_with "callWith ref" => (k_here; k_dflt (refine' callWith_79 ?k1 ?k2 ?_; (case k1 => k_asm); (case k2 => k_is); k_whole)))
  (k_with "call ref" => (k_here; (with_reducible show wpAny _ _ (call (Value.ref _) [Value.str _ _]) _ _ _); k_dflt (refine' find_K ?k1 ?k2 ?k3 ?k4 ?k5 ?k6 ?k7 ?k8 ?k9 ⟨fun hc' => ?_, fun hc' r' h' F' N' => ?_⟩; (case k1 => k_asm); (case k2 => k_asm); (case k3 => k_asm); (case k4 => k_is); (case k5 => k_is); (case k6 => k_is); (case k7 => assumption); (case k8 => (simp_all; omega)); (case k9 => assumption))))
  (k_with "call builtin:str.replace" => (k_here; (refine SC.replaceW (by (show @Ne Nat _ _); omega) (by (show @Ne Nat _ _); omega) (by (show @Ne Nat _ _); omega) (by decide +kernel) (by omega) (by decide +kernel) ?_); intro _ _))
  trivial
local macro_rules | `(tactic| walk_at $s:str) => `(tactic| k_extra $s)
theorem quote_claim (w : World) (p : Program) (loose : List Str) (mean : ExcName → Option Value) (mg mb : Str → Option Value) (news : List (Addr × Obj)) (x : Str) (t : Tok) :
  Cl 3 PySem.Challenge.rw_in0207_01.row.prog w (hd.heap_39 w.params) p loose mean mg mb 86 news (x.length ≤ 10000 ∧ ∀ c ∈ cd x, c ∈ al) [.str x t] (fun t => .str (quoteF x) t) := by
  w_strict (
  k_fill
  dsimp only [Cl, CbRet]; intros; rename_i hxx _ _ hret
  have hx := hxx.1
  have hal := hxx.2
  clear hxx
  have hL : (Txt.replace x (Str.ofString "'") (Str.ofString "'\"'\"'")).length ≤ 60000 := by
    have h1 := Wt_len [] (Txt.replace x (Str.ofString "'") (Str.ofString "'\"'\"'"))
    have h2 : Wt [] (Txt.replace x (Str.ofString "'") (Str.ofString "'\"'\"'")) ≤ Wt [39] x := by
      rw [show Str.ofString "'" = ⟨#[39]⟩ from by decide +kernel]
      exact Wt_step (by decide +kernel) (by decide +kernel)
    have h3 := Wt_le [39] x
    omega
  refine wpAny_call ?_
  k_dflt cell_enter
  k_steps
  all_goals (refine cb_retS hret ?_ (by k_asm) (by k_asm))
  all_goals (unfold quoteF rp; simp_all))
theorem len_pR (l : List Nat) (h : ∀ c ∈ l, c ∈ al) : (pR l).length ≤ 2 * l.length + 2 := by
  have h1 : ∀ (m : Nat), m = 39 ∨ m = 34 → ∀ l : List Nat, (∀ c ∈ l, c ∈ al) → (l.flatMap (sp (reTab m))).length ≤ 2 * l.length := by
    intro m hm l hl
    induction l with
    | nil => exact Nat.le_refl _
    | cons c r ih =>
      rw [List.flatMap_cons, List.length_append, List.length_cons]
      have h2 : ∀ m ∈ [39, 34], ∀ c ∈ al, (sp (reTab m) c).length ≤ 2 := by decide
      have h3 := h2 m (by simpa using hm) c (hl c (List.mem_cons_self ..))
      have h4 := ih fun d hd => hl d (List.mem_cons_of_mem _ hd)
      omega
  have h5 := h1 (markOf l) (mark_or l) l h
  unfold pR
  simp only [List.length_append, List.length_singleton]
  omega
theorem len_repr {x : PySem.Str} (hx : x.length ≤ 10000) (h : ∀ c ∈ cd x, c ∈ al) : (reprText x).length ≤ sizeLine := by
  have h1 := len_pR (cd x) h
  rw [← cd_repr h] at h1
  have e : ∀ y : PySem.Str, (cd y).length = y.length := fun y => by simp [cd, PySem.Str.length]
  rw [e, e] at h1
  rw [sizeLine_eq]
  omega
theorem words_Contr32 : True := by
  (k_with "my enter" => (refine' code_def ?k1 ?k2 ?k3 ?k4 ?k5 ?kA ?kF ?kK ?k6 ?k7 ?k8 ?k9 ?kB ?_ ?c2 ?c3 ?c4 ?c5; (case kA => exact rfl); (case kF => exact rfl); (case kK => assumption); (case k1 => k_asm); (case k2 => k_asm); (case k3 => k_asm); (case k4 => k_asm); (case k5 => k_asm); (case k6 => k_is); (case k7 => k_is); (case k8 => ktr_room); (case k9 => first | exact BindsTo.of_eq rfl | exact binds_K (by k_in) rfl (by k_is) rfl rfl rfl); (case c5 => decide); (case kB => exact locs rfl); (case c2 => exact rfl); (case c3 => exact rfl); (case c4 => exact rfl); k_whole; intro g' L' h' FG' F' N' B' X' T'; (try dsimp only); (try k_lift B'); (try k_fold)))
  (k_with "my enterC" => (refine' code_defC ?k1 ?k2 ?k3 ?k4 ?k5 ?kA ?kF ?kK ?k6 ?k7 ?k8 ?k9 ?kB ?kD ?_ ?c2 ?c3 ?c4; (case kA => exact rfl); (case kF => exact rfl); (case kK => assumption); (case k1 => k_asm); (case k2 => k_asm); (case k3 => k_asm); (case k4 => k_asm); (case k5 => k_asm); (case k6 => k_is); (case k7 => k_is); (case k8 => ktr_room); (case k9 => first | exact BindsTo.of_eq rfl | exact binds_K (by k_in) rfl (by k_is) rfl rfl rfl); (case kB => exact rfl); (case kD => decide +kernel); (case c2 => exact rfl); (case c3 => exact rfl); (case c4 => exact rfl); k_whole; intro g' L' h' tk' cells' FG' F' N' Y' B' X' T' l1; (try k_lt l1); k_cells Y'; (try simp only [List.cons_append, List.nil_append] at N'); (try dsimp only); (try k_lift B'); (try k_fold)))
  (k_with "call builtin:repr" => (k_here; (refine P.repr_of_str ?_ (hsz := len_repr (by assumption) (by assumption)))))
  trivial
theorem repr_claim (w : World) (p : Program) (loose : List Str) (mean : ExcName → Option Value) (mg mb : Str → Option Value) (news : List (Addr × Obj)) (x : Str) (t : Tok) :
  Cl 3 PySem.Challenge.rw_in0207_01.row.prog w (hd.heap_39 w.params) p loose mean mg mb 94 news (x.length ≤ 10000 ∧ ∀ c ∈ cd x, c ∈ al) [.str x t] (fun t => .str (reprText x) t) := by
  w_strict (
  k_fill
  dsimp only [Cl, CbRet]; intros; rename_i hxx _ _ hret
  have hx := hxx.1
  have hal := hxx.2
  clear hxx
  refine wpAny_call ?_
  k_dflt (walk_at "my enter")
  k_steps
  all_goals trace_state
  all_goals cb_end hret)
end Mine
end

section
/-! part: Contr4 -/
open PySem PySem.W PyProof.Rows PySem.Calls
set_option maxRecDepth 100000
set_option maxHeartbeats 8000000
namespace Mine

/-! what each hand keeps: the signs, a bound -/
structure Good (n : Nat) (x : PySem.Str) : Prop where
  len : x.length + 1 ≤ n
  al : ∀ c ∈ cd x, c ∈ al
theorem cd_len (y : PySem.Str) : (cd y).length = y.length := by simp [cd, PySem.Str.length]
def ix (T : Int) : Nat := if T = 0 then 0 else if T = 1 then 1 else if T = 2 then 2 else if T = 3 then 3 else 4
theorem ix_lt (T : Int) : ix T < 5 := by unfold ix; (repeat' split) <;> decide
theorem cd_esc {T : Int} {x : PySem.Str} (h : ∀ c ∈ cd x, c ∈ al) : cd (escF T x) = pX (ix T) (cd x) := by
  unfold escF ix
  repeat' split
  · exact cd_cdata h
  · exact cd_attrib h
  · exact cd_html h
  · exact cd_cdC14 h
  · exact cd_atC14 h
theorem cd_append (x y : PySem.Str) : cd (x ++ y) = cd x ++ cd y := by simp [cd, PySem.Str.cps_append]
theorem cd_quote (x : PySem.Str) : cd (quoteF x) = pQ (cd x) := by
  have hw : ∀ y : PySem.Str, cd (PySem.Str.ofString "'" ++ rp y "'" "'\"'\"'" ++ PySem.Str.ofString "'") = wrap (cd y) := fun y => by
    rw [cd_append, cd_append, cd_rp y 39 [39, 34, 39, 34, 39] (by decide +kernel) (by decide +kernel), show cd (PySem.Str.ofString "'") = [39] by decide +kernel]
    unfold wrap
    congr 2
    refine flat_congr fun c _ => ?_
    unfold rep sp quTab
    by_cases h : c = 39
    · subst h; rfl
    · simp [List.lookup, h, beq_eq_false_iff_ne.mpr h]
  unfold quoteF pQ
  by_cases h0 : x.length = 0
  · rw [if_pos h0]
    have e : cd x = [] := List.eq_nil_of_length_eq_zero (by rw [cd_len]; exact h0)
    rw [e, if_neg (by simp)]
    decide +kernel
  · rw [if_neg h0]
    have e : cd x ≠ [] := fun e => h0 (by rw [← cd_len, e]; rfl)
    by_cases hc : calm (cd x) = true
    · rw [if_pos hc, if_pos ⟨e, hc⟩]
    · rw [if_neg hc, if_neg (fun q => hc q.2)]
      exact hw x
theorem len_flat {f : Nat → List Nat} {k : Nat} : ∀ {x : List Nat}, (∀ c ∈ x, (f c).length ≤ k) → (x.flatMap f).length ≤ k * x.length
  | [], _ => Nat.zero_le _
  | c :: r, h => by
    rw [List.flatMap_cons, List.length_append, List.length_cons, Nat.mul_succ]
    have h1 := h c (List.mem_cons_self ..)
    have h2 := len_flat (f := f) (k := k) (x := r) fun d hd => h d (List.mem_cons_of_mem _ hd)
    omega
theorem Good.le {n k : Nat} {x : PySem.Str} (h : Good n x) (hk : n ≤ k) : Good k x := ⟨Nat.le_trans h.len hk, h.al⟩
theorem good_esc {T : Int} {n : Nat} {x : PySem.Str} (h : Good n x) : Good (6 * n) (escF T x) := by
  refine ⟨?_, ?_⟩
  · have h1 : (pX (ix T) (cd x)).length ≤ 6 * (cd x).length := len_flat fun c hc => by
      have : ∀ T < 5, ∀ c ∈ al, (sp (tb T) c).length ≤ 6 := by decide
      exact this _ (ix_lt T) c (h.al c hc)
    rw [← cd_esc h.al, cd_len, cd_len] at h1
    have := h.len
    omega
  · rw [cd_esc h.al]; exact pX_al (ix_lt T) h.al
theorem good_repr {n : Nat} {x : PySem.Str} (h : Good n x) : Good (6 * n) (reprText x) := by
  refine ⟨?_, ?_⟩
  · have h1 := len_pR (cd x) h.al
    rw [← cd_repr h.al, cd_len, cd_len] at h1
    have := h.len
    omega
  · rw [cd_repr h.al]; exact pR_al h.al
theorem good_quote {n : Nat} {x : PySem.Str} (h : Good n x) : Good (6 * n) (quoteF x) := by
  refine ⟨?_, ?_⟩
  · have h1 : (pQ (cd x)).length ≤ 5 * (cd x).length + 2 := by
      unfold pQ
      split
      · omega
      · unfold wrap
        have : ((cd x).flatMap (sp quTab)).length ≤ 5 * (cd x).length := len_flat fun c hc => by
          have : ∀ c ∈ al, (sp quTab c).length ≤ 5 := by decide
          exact this c (h.al c hc)
        simp only [List.length_append, List.length_singleton]
        omega
    rw [← cd_quote, cd_len, cd_len] at h1
    have := h.len
    omega
  · rw [cd_quote]; exact pQ_al h.al
theorem Good.pre {n : Nat} {x : PySem.Str} (h : Good n x) (hk : n ≤ 10000) : x.length ≤ 10000 ∧ ∀ c ∈ cd x, c ∈ Mine.al := ⟨by have := h.len; omega, h.al⟩
theorem Good.pre1 {n : Nat} {x : PySem.Str} (h : Good n x) (hk : n ≤ 10000) : x.length ≤ 10000 := by have := h.len; omega

/-- one hand by its sign -/
def handF (T : Int) (c : Char) (x : PySem.Str) : PySem.Str := if c = 'R' then reprText x else if c = 'Q' then quoteF x else escF T x
def runF (T : Int) (o : String) (x : PySem.Str) : PySem.Str := o.toList.foldl (fun y c => handF T c y) x

theorem words_Contr41 : True := by
  k_with_none
  (k_with "call ref" => (k_here; (with_reducible show wpAny _ _ (call (Value.ref _) [Value.str _ _]) _ _ _); k_dflt ((first | refine' use_claim (quote_claim _ _ _ _ _ _ _ _ _ ) ?uB ?uF ?uX ?uN ?uT ?uk ?up ?ud ?uu (fun t' h' tk' F' N' => ?_) | refine' use_claim (repr_claim _ _ _ _ _ _ _ _ _ ) ?uB ?uF ?uX ?uN ?uT ?uk ?up ?ud ?uu (fun t' h' tk' F' N' => ?_)); (case uB => k_asm); (case uF => k_asm); (case uX => k_asm); (case uN => k_asm); (case uT => k_asm); (case uk => first | exact rfl | assumption); (case up => (first | (refine Good.pre (n := 11) ?_ (by decide); assumption) | (refine Good.pre (n := 6 * 11) ?_ (by decide); (first | refine good_esc ?_ | refine good_repr ?_ | refine good_quote ?_); assumption) | (refine Good.pre (n := 6 * (6 * 11)) ?_ (by decide); (first | refine good_esc ?_ | refine good_repr ?_ | refine good_quote ?_); (first | refine good_esc ?_ | refine good_repr ?_ | refine good_quote ?_); assumption))); (case ud => ktr_room); (case uu => ktr_units))))
  (k_with "call ref" => (k_here; (with_reducible show wpAny _ _ (call (Value.ref _) [Value.int _ _, Value.str _ _]) _ _ _); k_dflt ((first | refine' use_claim (esc_claim _ _ _ _ _ _ _ _ _  _ _) ?uB ?uF ?uX ?uN ?uT ?uk ?up ?ud ?uu (fun t' h' tk' F' N' => ?_)); (case uB => k_asm); (case uF => k_asm); (case uX => k_asm); (case uN => k_asm); (case uT => k_asm); (case uk => first | exact rfl | assumption); (case up => (first | (refine Good.pre1 (n := 11) ?_ (by decide); assumption) | (refine Good.pre1 (n := 6 * 11) ?_ (by decide); (first | refine good_esc ?_ | refine good_repr ?_ | refine good_quote ?_); assumption) | (refine Good.pre1 (n := 6 * (6 * 11)) ?_ (by decide); (first | refine good_esc ?_ | refine good_repr ?_ | refine good_quote ?_); (first | refine good_esc ?_ | refine good_repr ?_ | refine good_quote ?_); assumption))); (case ud => ktr_room); (case uu => ktr_units))))
  trivial
local macro_rules | `(tactic| walk_at $s:str) => `(tactic| k_extra $s)
theorem allLt_mem {d : Addr} : ∀ {l : List (Addr × Obj)}, AllLt d l → ∀ p ∈ l, p.1 < d
  | [], _, _, h => nomatch h
  | _ :: _, x, p, h => by
    rcases List.mem_cons.mp h with rfl | h
    · exact x.1
    · exact allLt_mem x.2 p h
theorem unrEnd_g {h₀ : Heap} {L I : Addr} {it : Obj} {rest : (Str → Option Value) → List (Addr × Obj) → Prop} {s₁ : Shared} {h' : Heap} {tk : Nat} {m' : Str → Option Value} {news : List (Addr × Obj)} (F : Fr h₀ L h' m') (N : News h₀ L h' ((I, it) :: news)) (l : ∀ p ∈ news, p.1 < I) (r : rest m' news) :
    UnrEnd h₀ L s₁ I it rest { s₁ with heap := h', toks := tk } := UnrEnd.intro F N news (fun _ hp => hp) (fun p hp => Nat.ne_of_lt (l p hp)) r
local macro_rules | `(tactic| walk_at "pyIter str") => `(tactic| (k_here; walk_at "last pyIter str"))

theorem words_Contr42 : True := by
  (k_with "UnrEnd" => (refine' unrEnd_g ?a ?b ?c ?_; (case a => k_asm); (case b => k_asm); (case c => k_asm)))
  (k_with "exec For Name Name" => (k_here; walk_at "last exec For Name Name"))
  (k_with "exec For Name Name cons nil" => (k_here; walk_at "last exec For Name Name"))
  trivial
theorem runRXQ_claim (w : World) (p : Program) (loose : List Str) (mean : ExcName → Option Value) (mg mb : Str → Option Value) (news : List (Addr × Obj)) (tO : Tok) (T : Int) (tT : Tok) (x : Str) (t : Tok) :
  Cl 6 PySem.Challenge.rw_in0207_01.row.prog w (hd.heap_39 w.params) p loose mean mg mb 120 news (Good 11 x) [.str (PySem.Str.ofString "RXQ") tO, .int T tT, .str x t] (fun t => .str (runF T "RXQ" x) t) := by
  w_strict (
  k_fill
  dsimp only [Cl, CbRet]; intros; rename_i hg _ _ hret
  refine wpAny_call ?_
  k_dflt cell_enter
  k_steps
  all_goals cb_end hret)

theorem runXRQ_claim (w : World) (p : Program) (loose : List Str) (mean : ExcName → Option Value) (mg mb : Str → Option Value) (news : List (Addr × Obj)) (tO : Tok) (T : Int) (tT : Tok) (x : Str) (t : Tok) :
  Cl 6 PySem.Challenge.rw_in0207_01.row.prog w (hd.heap_39 w.params) p loose mean mg mb 120 news (Good 11 x) [.str (PySem.Str.ofString "XRQ") tO, .int T tT, .str x t] (fun t => .str (runF T "XRQ" x) t) := by
  w_strict (
  k_fill
  dsimp only [Cl, CbRet]; intros; rename_i hg _ _ hret
  refine wpAny_call ?_
  k_dflt cell_enter
  k_steps
  all_goals cb_end hret)

theorem runRQX_claim (w : World) (p : Program) (loose : List Str) (mean : ExcName → Option Value) (mg mb : Str → Option Value) (news : List (Addr × Obj)) (tO : Tok) (T : Int) (tT : Tok) (x : Str) (t : Tok) :
  Cl 6 PySem.Challenge.rw_in0207_01.row.prog w (hd.heap_39 w.params) p loose mean mg mb 120 news (Good 11 x) [.str (PySem.Str.ofString "RQX") tO, .int T tT, .str x t] (fun t => .str (runF T "RQX" x) t) := by
  w_strict (
  k_fill
  dsimp only [Cl, CbRet]; intros; rename_i hg _ _ hret
  refine wpAny_call ?_
  k_dflt cell_enter
  k_steps
  all_goals cb_end hret)

theorem runQRX_claim (w : World) (p : Program) (loose : List Str) (mean : ExcName → Option Value) (mg mb : Str → Option Value) (news : List (Addr × Obj)) (tO : Tok) (T : Int) (tT : Tok) (x : Str) (t : Tok) :
  Cl 6 PySem.Challenge.rw_in0207_01.row.prog w (hd.heap_39 w.params) p loose mean mg mb 120 news (Good 11 x) [.str (PySem.Str.ofString "QRX") tO, .int T tT, .str x t] (fun t => .str (runF T "QRX" x) t) := by
  w_strict (
  k_fill
  dsimp only [Cl, CbRet]; intros; rename_i hg _ _ hret
  refine wpAny_call ?_
  k_dflt cell_enter
  k_steps
  all_goals cb_end hret)

theorem runXQR_claim (w : World) (p : Program) (loose : List Str) (mean : ExcName → Option Value) (mg mb : Str → Option Value) (news : List (Addr × Obj)) (tO : Tok) (T : Int) (tT : Tok) (x : Str) (t : Tok) :
  Cl 6 PySem.Challenge.rw_in0207_01.row.prog w (hd.heap_39 w.params) p loose mean mg mb 120 news (Good 11 x) [.str (PySem.Str.ofString "XQR") tO, .int T tT, .str x t] (fun t => .str (runF T "XQR" x) t) := by
  w_strict (
  k_fill
  dsimp only [Cl, CbRet]; intros; rename_i hg _ _ hret
  refine wpAny_call ?_
  k_dflt cell_enter
  k_steps
  all_goals cb_end hret)

theorem runQXR_claim (w : World) (p : Program) (loose : List Str) (mean : ExcName → Option Value) (mg mb : Str → Option Value) (news : List (Addr × Obj)) (tO : Tok) (T : Int) (tT : Tok) (x : Str) (t : Tok) :
  Cl 6 PySem.Challenge.rw_in0207_01.row.prog w (hd.heap_39 w.params) p loose mean mg mb 120 news (Good 11 x) [.str (PySem.Str.ofString "QXR") tO, .int T tT, .str x t] (fun t => .str (runF T "QXR" x) t) := by
  w_strict (
  k_fill
  dsimp only [Cl, CbRet]; intros; rename_i hg _ _ hret
  refine wpAny_call ?_
  k_dflt cell_enter
  k_steps
  all_goals cb_end hret)
end Mine
end

section
/-! part: Enter -/
open PySem PySem.W PyProof.Rows PySem.Calls
set_option maxRecDepth 100000
namespace Mine
/-- a callee whose ground is the whole heap of its call: the caller's ledger comes back by itself -/
def LeaveN (g : Heap) (K : Value → Shared → Prop) (v : Value) (s' : Shared) : Prop := ∃ L' m', Fr g L' s'.heap m' ∧ K v s'
theorem leaveN_ {h₀ g : Heap} {L L' : Addr} {m m' : PySem.Str → Option Value} {news : List (Addr × Obj)} {R : Value → Shared → Prop} {v : Value} {s' : Shared} (F' : Fr g L' s'.heap m')
    (k : Fr h₀ L s'.heap m → News h₀ L s'.heap news → R v s') : LeaveN g (fun v s' => Fr h₀ L s'.heap m → News h₀ L s'.heap news → R v s') v s' := ⟨L', m', F', k⟩
section
variable {prog : Program} {w : World} {A A₀ : Around} {s : Shared} {K : Frag} {L : Addr} {h₀ base : Heap} {m mg mb : PySem.Str → Option Value} {news : List (Addr × Obj)} {p : Program} {loose : List PySem.Str} {mean : ExcName → Option Value}
theorem leaveN_out {R : Result → Shared → Prop} (F : Fr h₀ L s.heap m) (N : News h₀ L s.heap news) {v : Value} {s' : Shared}
    (h : LeaveN s.heap (fun v s' => Fr h₀ L s'.heap m → News h₀ L s'.heap news → R (.ok (.ret v)) s') v s') : R (.ok (.ret v)) s' := by
  obtain ⟨L', m', F', k⟩ := h
  exact k ⟨F.ns.at' fun o e => F'.keep L o e, fun b o e => F'.keep b o (F.keep b o e), F.above⟩ fun q hq => ⟨F'.keep _ _ (N q hq).1, (N q hq).2⟩
theorem below_N {env : Env} {outer : List Env} (B : Below A₀ base outer h₀) (F : Fr h₀ L s.heap m) (hA : A.frames = some (env :: outer)) (hf : env.frame = some L) (hke : env.scope.kind = .function) : Below A base (env :: outer) s.heap :=
  ⟨hA, fun b o e => F.keep b o (B.stays b o e), (pushX B F hf hke).frames⟩
theorem enterP {env : Env} {outer : List Env} {R : Result → Shared → Prop} {name qual : PySem.Str} {params : Arguments} {body : List Stmt} {scope : Scope} {dV kV doc pm cdv ct oc : Value} {an od : Option Addr} {osl : Array (Option Value)} {f : Addr} {args : Args} {binds : List (PySem.Str × Value)}
    (B : Below A₀ base outer h₀) (F : Fr h₀ L s.heap m) (X₀ : K.In h₀) (N : News h₀ L s.heap news) (T : Top p loose mean mg mb h₀) (hA : A.frames = some (env :: outer)) (hf : env.frame = some L) (hke : env.scope.kind = .function)
    (ho : K.lookup f = some ⟨oc, od, .func (fnOf name qual params body scope dV kV doc pm an cdv ct), osl⟩) (hcd : codeIn K cdv qual = true) (hroom : A.depth < recursionLimit)
    (hbind : BindsTo s (fnOf name qual params body scope dV kV doc pm an cdv ct) args binds) (hloc : ∀ y ∈ binds, scope.names.lookup y.1 = some .local)
    (h : ∀ L' h₁, Fr s.heap L' h₁ (fun y => binds.reverse.lookup y) → News s.heap L' h₁ [] → Below A base (env :: outer) s.heap → K.In s.heap → Top p loose mean mg mb s.heap →
      wpAny (model prog w) (A.deeper (envOf qual scope L' f cdv)) (execs body (envOf qual scope L' f cdv))
        (fun fl s' => LeaveN s.heap (fun v s' => Fr h₀ L s'.heap m → News h₀ L s'.heap news → R (.ok (.ret v)) s') (match fl with | .ret v => v | _ => .none) s')
        (fun e s' => wpAny (model prog w) (A.deeper (envOf qual scope L' f cdv)) (leaving (envOf qual scope L' f cdv) e) (fun _ s'' => R (.error e) s'') (fun e' s'' => R (.error e') s'') s')
        { s with heap := h₁, toks := s.toks + binds.length })
    (hco : scope.isCoroutine = false) (hgen : scope.isGenerator = false) (hk : scope.kind = .function)
    (hcell : ∀ x ∈ scope.names, x.2 ≠ .cell) : codeAny (model prog w) A (.call (.ref f) args) R s := by
  have X := X₀.keeps F.keep
  refine codeAny_call_def (fd := fnOf name qual params body scope dV kV doc pm an cdv ct) (body := body) (binds := binds) hroom (X _ _ ho) rfl (T.nolimit.keeps F.keep) (codeRec_of X hcd) rfl hbind hcell hloc (fun h₁ hns hk₁ => ?_) hco hgen hk
  exact wpAny_mono (h s.heap.objs.size h₁ ⟨hns, hk₁, Nat.le_refl _⟩ News.nil (below_N B F hA hf hke) X (T.keeps F.keep)) (fun fl s' hl => leaveN_out F N hl) fun _ _ y => y
theorem enterC {env : Env} {outer : List Env} {R : Result → Shared → Prop} {name qual : PySem.Str} {params : Arguments} {body : List Stmt} {scope : Scope} {dV kV doc pm cdv ct oc : Value} {an od : Option Addr} {osl : Array (Option Value)} {f : Addr} {args : Args} {binds : List (PySem.Str × Value)}
    (B : Below A₀ base outer h₀) (F : Fr h₀ L s.heap m) (X₀ : K.In h₀) (N : News h₀ L s.heap news) (T : Top p loose mean mg mb h₀) (hA : A.frames = some (env :: outer)) (hf : env.frame = some L) (hke : env.scope.kind = .function)
    (ho : K.lookup f = some ⟨oc, od, .func (fnOf name qual params body scope dV kV doc pm an cdv ct), osl⟩) (hcd : codeIn K cdv qual = true) (hroom : A.depth < recursionLimit)
    (hbind : BindsTo s (fnOf name qual params body scope dV kV doc pm an cdv ct) args binds) (hkind : (binds.all fun y => scope.names.lookup y.1 == some .local || scope.names.lookup y.1 == some .cell) = true)
    (hnd : ((cellsFrom 0 scope.names []).map (·.1)).Nodup)
    (h : ∀ L' h₁ tk cells, Fr s.heap L' h₁ (bindL (envOfC qual scope L' f cdv).kindOf binds fun _ => none) → News s.heap L' h₁ cells →
      CellsAre (bindC (envOfC qual scope L' f cdv).kindOf binds fun _ => none) (cellsFrom (L' + 1) scope.names []) cells → Below A base (env :: outer) s.heap → K.In s.heap → Top p loose mean mg mb s.heap →
      wpAny (model prog w) (A.deeper (envOfC qual scope L' f cdv)) (execs body (envOfC qual scope L' f cdv))
        (fun fl s' => LeaveN s.heap (fun v s' => Fr h₀ L s'.heap m → News h₀ L s'.heap news → R (.ok (.ret v)) s') (match fl with | .ret v => v | _ => .none) s')
        (fun e s' => wpAny (model prog w) (A.deeper (envOfC qual scope L' f cdv)) (leaving (envOfC qual scope L' f cdv) e) (fun _ s'' => R (.error e) s'') (fun e' s'' => R (.error e') s'') s')
        { s with heap := h₁, toks := tk })
    (hco : scope.isCoroutine = false) (hgen : scope.isGenerator = false) (hk : scope.kind = .function) : codeAny (model prog w) A (.call (.ref f) args) R s := by
  have X := X₀.keeps F.keep
  refine codeAny_call_function hroom (X _ _ ho) rfl hco hgen rfl (codeRec_of X hcd) (hbind _ _ _ _ ?_)
  refine wpAny_newFunctionEnv_cells hk (kindsX hkind _) fun env' he s' x => ?_
  subst he
  refine ⟨(T.nolimit.keeps F.keep).keeps x.toInCall.keep, codeAny_func ?_⟩
  obtain ⟨h₁, tk, rfl, _⟩ := x.done
  have hk₁ := x.toInCall.keep
  obtain ⟨cells, NC, Y⟩ := Cl.news (h₀ := s.heap) (Nat.le_refl _) fun n c hm => ⟨x.cell n c (lookup_of_mem_nodup (cellsFrom_names scope.names 0 (s.heap.objs.size + 1) [] [] rfl ▸ hnd) hm), x.above n c hm⟩
  exact wpAny_mono (h s.heap.objs.size h₁ tk cells ⟨x.toInCall.ns, hk₁, Nat.le_refl _⟩ NC Y (below_N B F hA hf hke) X (T.keeps F.keep)) (fun fl s' hl => leaveN_out F N hl) fun _ _ y => y
end
end Mine
end

section
/-! part: Contr5 -/
open PySem PySem.W PyProof.Rows PySem.Calls
set_option maxRecDepth 100000
set_option maxHeartbeats 8000000
namespace Mine

theorem words_Contr51 : True := by
  k_with_none
  (k_with "my enterP" => (refine' enterP ?k1 ?k2 ?k3 ?k4 ?k5 ?kA ?kF ?kK ?k6 ?k7 ?k8 ?k9 ?kB ?_ ?c2 ?c3 ?c4 ?c5; (case kA => exact rfl); (case kF => exact rfl); (case kK => assumption); (case k1 => k_asm); (case k2 => k_asm); (case k3 => k_asm); (case k4 => k_asm); (case k5 => k_asm); (case k6 => k_is); (case k7 => k_is); (case k8 => ktr_room); (case k9 => first | exact BindsTo.of_eq rfl | exact binds_K (by k_in) rfl (by k_is) rfl rfl rfl); (case c5 => decide); (case kB => exact locs rfl); (case c2 => exact rfl); (case c3 => exact rfl); (case c4 => exact rfl); k_whole; intro L' h' F' N' B' X' T'; (try dsimp only); (try k_lift B'); (try k_fold)))
  (k_with "my enterC" => (refine' enterC ?k1 ?k2 ?k3 ?k4 ?k5 ?kA ?kF ?kK ?k6 ?k7 ?k8 ?k9 ?kB ?kD ?_ ?c2 ?c3 ?c4; (case kA => exact rfl); (case kF => exact rfl); (case kK => assumption); (case k1 => k_asm); (case k2 => k_asm); (case k3 => k_asm); (case k4 => k_asm); (case k5 => k_asm); (case k6 => k_is); (case k7 => k_is); (case k8 => ktr_room); (case k9 => first | exact BindsTo.of_eq rfl | exact binds_K (by k_in) rfl (by k_is) rfl rfl rfl); (case kB => exact rfl); (case kD => decide +kernel); (case c2 => exact rfl); (case c3 => exact rfl); (case c4 => exact rfl); k_whole; intro L' h' tk' cells' F' N' Y' B' X' T'; k_cells Y'; (try simp only [List.cons_append, List.nil_append] at N'); (try dsimp only); (try k_lift B'); (try k_fold)))
  (k_with "LeaveN" => (k_dflt (refine' leaveN_ ?k1 ?_; (case k1 => k_asm)); intro kF kN; (try dsimp only)))
  trivial
local macro_rules | `(tactic| walk_at $s:str) => `(tactic| k_extra $s)
theorem cd_join : ∀ l : List PySem.Str, cd (Txt.join (PySem.Str.ofString "") l) = l.flatMap cd := by
  intro l
  show cd (Builtin.Str.glued (PySem.Str.ofString "") l) = _
  rw [StrLaws.glued_eq_join]
  have e : cd (PySem.Str.ofString "") = [] := by decide +kernel
  induction l with
  | nil => rfl
  | cons a r ih =>
    cases r with
    | nil => show cd a = _; simp
    | cons b r =>
      show cd (a ++ PySem.Str.ofString "" ++ PySem.Str.join (PySem.Str.ofString "") (b :: r)) = _
      rw [cd_append, cd_append, e, ih, List.append_nil]
      rfl
def pieceL : List PySem.Str := [PySem.Str.ofString "'", PySem.Str.ofString "\"", PySem.Str.ofString "\\", PySem.Str.ofString "&", PySem.Str.ofString "<", PySem.Str.ofString ">", PySem.Str.ofString "\n", PySem.Str.ofString "\r", PySem.Str.ofString "\t", PySem.Str.ofString "a", PySem.Str.ofString " ", PySem.Str.ofString "="]
theorem piece_ok (k : Nat) : (pieceL.getD k PySem.Str.empty).length ≤ 1 ∧ ∀ c ∈ cd (pieceL.getD k PySem.Str.empty), c ∈ L0 := by
  by_cases h : k < 12
  · exact (by decide +kernel : ∀ k < 12, (pieceL.getD k PySem.Str.empty).length ≤ 1 ∧ ∀ c ∈ cd (pieceL.getD k PySem.Str.empty), c ∈ L0) k h
  · have e : pieceL.getD k PySem.Str.empty = PySem.Str.empty := by
      rw [List.getD_eq_getElem?_getD, List.getElem?_eq_none (by show 12 ≤ k; omega)]; rfl
    rw [e]
    exact ⟨by decide, fun c hc => nomatch hc⟩
def pieceF (k : Int) : PySem.Str := pieceL.getD (k.fmod 12).toNat PySem.Str.empty
theorem text_len (l : List Int) (hl : l.length ≤ 10) : (Txt.join (PySem.Str.ofString "") (l.map pieceF)).length ≤ 10 := by
  rw [← cd_len, cd_join]
  have : ((l.map pieceF).flatMap cd).length ≤ 1 * (l.map pieceF).length := by
    have h : ∀ x ∈ l.map pieceF, (cd x).length ≤ 1 := fun x hx => by
      obtain ⟨k, _, rfl⟩ := List.mem_map.mp hx
      rw [cd_len]
      exact (piece_ok _).1
    revert h
    induction l.map pieceF with
    | nil => intro _; exact Nat.le_refl _
    | cons a r ih =>
      intro h
      rw [List.flatMap_cons, List.length_append, List.length_cons]
      have h1 := h a (List.mem_cons_self ..)
      have h2 := ih fun x hx => h x (List.mem_cons_of_mem _ hx)
      omega
  rw [List.length_map] at this
  omega
theorem text_L0 (l : List Int) : ∀ c ∈ cd (Txt.join (PySem.Str.ofString "") (l.map pieceF)), c ∈ L0 := by
  intro c hc
  rw [cd_join] at hc
  obtain ⟨x, hx, hcx⟩ := List.mem_flatMap.mp hc
  obtain ⟨k, _, rfl⟩ := List.mem_map.mp hx
  exact (piece_ok _).2 c hcx

theorem words_Contr52 : True := by
  (k_with "CompSrc" => (k_here; k_dflt (refine LCg.CompSrc.ledger (by rfl) (by k_asm) (by k_asm) (by k_mem) (by size_fits) ?_; intro g'; (refine' kct_list pieceF (by assumption) (fun k' t' I' oI' C' oC' D' m' ys' h' tk' E' hk' hC' hx' F' N' off' ne' => ?_) ?_); (all_goals (try (simp only [LCg.Off3, and_true] at off'))); (all_goals (try ((show KPfMark → _); intro hMark'))); kcf_last)))
  (k_with "KCtEl" => k_dflt (exact kct_el rfl rfl rfl))
  (k_with "call builtin:str.join" => (k_here; k_dflt (refine KT.join_B 1 (by first | is_list | exact News.isList (by k_asm) (by k_mem)) (by assumption) (fun a _ => (piece_ok _).1) (Nat.le_trans (List.length_take_le ..) (by decide)) (by decide) ?_); intro _ _))
  trivial
theorem text_claim (w : World) (p : Program) (loose : List Str) (mean : ExcName → Option Value) (mg mb : Str → Option Value) (news : List (Addr × Obj)) (dp un : Nat) (gd : Option (List Code)) (cn : Str) (cs : Scope) (a : Addr) (ccd : Value) (cl : List (Str × Addr)) (outer : List Env) (A₀ : Around) (base h₀ : Heap) (L : Addr) (m : Str → Option Value) (s : Shared) (Q E : Value → Shared → Prop)
    (l : Addr) (vs : List Value) (ns : List Int) : (hd.heap_39 w.params).In h₀ → ∀ (B : Below A₀ base outer h₀) (F : Fr h₀ L s.heap m) (N : News h₀ L s.heap news) (T : Top p loose mean mg mb h₀) (hk : cs.kind = .function)
    (hl : base.IsList l vs.toArray) (hi : IntsAre vs ns) (hn : ns.length ≤ 63) (hd : dp + 6 < recursionLimit) (hu : un + 48 < cLine)
    (hret : ∀ x t h' tk', x.length ≤ 10 → (∀ c ∈ cd x, c ∈ L0) → Fr h₀ L h' m → News h₀ L h' news → Q (.str x t) { s with heap := h', toks := tk' }),
    wpAny (model PySem.Challenge.rw_in0207_01.row.prog w) (ktrTop dp un gd cn cs L a ccd cl outer) (call (.ref 99) [.ref l]) Q E s := by
  w_strict (
  k_fill
  intro X B F N T hk hl hi hn hd hu hret
  refine wpAny_call ?_
  k_dflt (walk_at "my enterC")
  k_steps
  all_goals (refine hret _ _ _ _ (text_len _ (List.length_take_le ..)) (text_L0 _) (by k_asm) (by k_asm)))
end Mine
end

section
/-! part: Contr6 -/
open PySem PySem.W PyProof.Rows PySem.Calls PyProof.V PySem.Spec
set_option maxRecDepth 100000
set_option maxHeartbeats 8000000
namespace Mine

def tabD (T : Int) : List (PyData × PyData) :=
  if T = 0 then [(.str (PySem.Str.ofString "&"), .str (PySem.Str.ofString "&amp;")), (.str (PySem.Str.ofString "<"), .str (PySem.Str.ofString "&lt;")), (.str (PySem.Str.ofString ">"), .str (PySem.Str.ofString "&gt;"))]
  else if T = 1 then [(.str (PySem.Str.ofString "&"), .str (PySem.Str.ofString "&amp;")), (.str (PySem.Str.ofString "<"), .str (PySem.Str.ofString "&lt;")), (.str (PySem.Str.ofString ">"), .str (PySem.Str.ofString "&gt;")), (.str (PySem.Str.ofString "\""), .str (PySem.Str.ofString "&quot;")), (.str (PySem.Str.ofString "\r"), .str (PySem.Str.ofString "&#13;")), (.str (PySem.Str.ofString "\n"), .str (PySem.Str.ofString "&#10;")), (.str (PySem.Str.ofString "\t"), .str (PySem.Str.ofString "&#09;"))]
  else if T = 2 then [(.str (PySem.Str.ofString "&"), .str (PySem.Str.ofString "&amp;")), (.str (PySem.Str.ofString ">"), .str (PySem.Str.ofString "&gt;")), (.str (PySem.Str.ofString "\""), .str (PySem.Str.ofString "&quot;"))]
  else if T = 3 then [(.str (PySem.Str.ofString "&"), .str (PySem.Str.ofString "&amp;")), (.str (PySem.Str.ofString "<"), .str (PySem.Str.ofString "&lt;")), (.str (PySem.Str.ofString ">"), .str (PySem.Str.ofString "&gt;")), (.str (PySem.Str.ofString "\r"), .str (PySem.Str.ofString "&#xD;"))]
  else [(.str (PySem.Str.ofString "&"), .str (PySem.Str.ofString "&amp;")), (.str (PySem.Str.ofString "<"), .str (PySem.Str.ofString "&lt;")), (.str (PySem.Str.ofString "\""), .str (PySem.Str.ofString "&quot;")), (.str (PySem.Str.ofString "\t"), .str (PySem.Str.ofString "&#x9;")), (.str (PySem.Str.ofString "\n"), .str (PySem.Str.ofString "&#xA;")), (.str (PySem.Str.ofString "\r"), .str (PySem.Str.ofString "&#xD;"))]
theorem table_claim (w : World) (p : Program) (loose : List Str) (mean : ExcName → Option Value) (mg mb : Str → Option Value) (news : List (Addr × Obj)) (dp un : Nat) (gd : Option (List Code)) (cn : Str) (cs : Scope) (a : Addr) (ccd : Value) (cl : List (Str × Addr)) (outer : List Env) (A₀ : Around) (base h₀ : Heap) (L : Addr) (m : Str → Option Value) (s : Shared) (Q E : Value → Shared → Prop)
    (T : Int) (tT : Tok) : (hd.heap_39 w.params).In h₀ → ∀ (_ : Below A₀ base outer h₀) (_ : Fr h₀ L s.heap m) (_ : News h₀ L s.heap news) (_ : Top p loose mean mg mb h₀) (_ : cs.kind = .function)
    (_ : dp + 6 < recursionLimit) (_ : un + 48 < cLine)
    (_ : ∀ d h' tk' o kvs, Fr h₀ L h' m → News h₀ L h' ((d, o) :: news) → (∀ p ∈ news, p.1 < d) → (d == sysModules) = false → o.IsDictOf (strKind PySem.Challenge.rw_in0207_01.row.prog w) kvs → FlatPairs PyData.str kvs (tabD T) → Q (.ref d) { s with heap := h', toks := tk' }),
    wpAny (model PySem.Challenge.rw_in0207_01.row.prog w) (ktrTop dp un gd cn cs L a ccd cl outer) (call (.ref 106) [.int T tT]) Q E s := by
  w_strict (
  k_fill
  intro X B F N Tp hk hd hu hret
  refine wpAny_call ?_
  k_dflt cell_enter
  k_steps
  all_goals (with_reducible rename Obj.IsDictOf _ _ _ => hdD)
  all_goals (with_reducible rename FlatPairs _ _ _ => hfD)
  all_goals (dsimp only at hdD hfD ⊢)
  all_goals (refine hret _ _ _ _ _ (by k_asm) (by k_asm) ?_ ?_ hdD ?_)
  all_goals (try assumption)
  all_goals (unfold tabD)
  · rw [if_pos (by assumption)]; exact hfD
  · rw [if_neg (by assumption), if_pos (by assumption)]; exact hfD
  · rw [if_neg (by assumption), if_neg (by assumption), if_pos (by assumption)]; exact hfD
  · rw [if_neg (by assumption), if_neg (by assumption), if_neg (by assumption), if_pos (by assumption)]; exact hfD
  · rw [if_neg (by assumption), if_neg (by assumption), if_neg (by assumption), if_neg (by assumption)]; exact hfD)
end Mine
end

section
/-! part: Comp -/
open PySem PySem.W PyProof.Rows PySem.Calls PyProof.V PySem.Spec PySem.SeqAt
set_option maxRecDepth 100000
set_option maxHeartbeats 2000000
namespace Mine
theorem walks_str {prog : Program} {w : World} {A : Around} (hh : A.handled = none) (I : Addr) (x : PySem.Str) (t : Tok) :
    Walks prog w A I [I] [I] x.cps.size (SignAt x) (fun i h => h.IsStrIter I (strIterType x) x t i) := by
  unfold strIterType
  cases x.cps.all (· < 128)
  · exact Walks.strWide hh I x t
  · exact Walks.strAscii hh I x t
theorem str_st {x : PySem.Str} {t : Tok} {T : String} {I : Addr} {i : Nat} {h h' : Heap} {o : Obj} (st : h.IsStrIter I T x t i) (e : h.get? I = some o) (e' : h'.get? I = some o) : h'.IsStrIter I T x t i := by
  obtain ⟨o', q, r⟩ := st
  rw [e] at q; cases q
  exact ⟨o, e', r⟩

section
variable {prog : Program} {w : World} {A : Around} {E : Value → Shared → Prop} {s : Shared} {h₀ : Heap} {L : Addr} {m : PySem.Str → Option Value} {env : Env}
open LCg LCt
def SrcS (prog : Program) (w : World) (A : Around) (h₀ : Heap) (L : Addr) (m : PySem.Str → Option Value) (env : Env) (elt : PySem.Expr) (x : PySem.Str) (scope : Scope) (cl : List (PySem.Str × Addr)) (Fin : Shared → List Value → List (Addr × Obj) → Prop) (xv : Value) (s₁ : Shared) : Prop :=
  ∃ tx t news, xv = .str tx t ∧ A.handled = none ∧ Fr h₀ L s₁.heap m ∧ News h₀ L s₁.heap news ∧ tx.length ≤ sizeLine ∧
    ∀ s₂ : Shared, (∃ h, s₂ = { s₁ with heap := h }) → CompRest prog w A h₀ L m env elt x scope cl s₂ (fun _ => True) (SignAt tx) (Fin s₂) tx.cps.size 0 [] news
theorem SrcS.intro {elt : PySem.Expr} {x : PySem.Str} {scope : Scope} {cl : List (PySem.Str × Addr)} {Fin : Shared → List Value → List (Addr × Obj) → Prop} {tx : PySem.Str} {t : Tok} {news : List (Addr × Obj)} {s₁ : Shared}
    (hh : A.handled = none) (F : Fr h₀ L s₁.heap m) (N : News h₀ L s₁.heap news) (hsz : tx.length ≤ sizeLine)
    (h : ∀ g, CompRest prog w A h₀ L m env elt x scope cl { s₁ with heap := g } (fun _ => True) (SignAt tx) (Fin { s₁ with heap := g }) tx.cps.size 0 [] news) :
    SrcS prog w A h₀ L m env elt x scope cl Fin (.str tx t) s₁ := ⟨tx, t, news, rfl, hh, F, N, hsz, fun _ ⟨g, e⟩ => e ▸ h g⟩
theorem ListComp_S {elt iter : PySem.Expr} {x : PySem.Str} {px : Pos} {scope : Scope} {cl : List (PySem.Str × Addr)} {pos : Pos} {Q : Value → Shared → Prop} (_F₀ : Fr h₀ L s.heap m)
    (hclos : closureFor scope env = pure cl) (hcell : ∀ y ∈ scope.names, y.2 ≠ .cell) (hkind : scope.kind = .function)
    (hnames : ∀ y ∈ scope.names, y.2 = .local → scope.names.lookup y.1 = some .local) (hx : scope.names.lookup x = some .local)
    (h : wpAny (model prog w) A (eval iter env) (SrcS prog w A h₀ L m env elt x scope cl (fun s₂ => FinE h₀ L m s₂ Q)) E s)
    (hs : ∀ x, foldedSetIterable iter env x = pure x := by intro _; rfl) :
    wpAny (model prog w) A (eval (.ListComp elt [⟨.Name x px, iter, [], 0⟩] scope pos) env) Q E s := by
  rw [eval_ListComp]
  refine wpAny_comprehension_free (use := none) rfl hs hclos hkind hnames (wpAny_mono h (fun xv s₁ h₁ => ?_) fun _ _ e => e)
  obtain ⟨tx, t, news, rfl, hh, F, N, hsz, R⟩ := h₁
  refine wpAny_pyIter_strU ?_
  refine block_U (walks_str hh _ tx t) hsz (fun i h st => by obtain ⟨o, e, _⟩ := st; exact ⟨o, e⟩) (fun i h h' o nw st e e' _ _ _ => str_st st e e') hcell hkind hx ⟨_, Heap.get?_push_size _ rfl, rfl, rfl⟩ (fun b hb => ?_)
    (F.keeps fun _ _ e => Heap.get?_push_of_some _ e) (N.grown fun _ _ e => Heap.get?_push_of_some _ e) (Nat.ne_of_lt F.ns.lt) (next_is_new F) (fun p hp => Nat.ne_of_lt (Heap.lt_size (N p hp).1)) trivial (R _ ⟨_, rfl⟩) ?_
  · rw [List.mem_singleton.mp hb]
    show s₁.heap.objs.size < (s₁.heap.push _).objs.size
    rw [Heap.size_push]; exact Nat.lt_succ_self _
  · intro D C h tk m' ys news' F' N' o1 hn hC₀ hD₀ hCL hDL hCD offC fin
    refine ⟨m', hn, fun h'' hs'' => fin D h'' tk (F'.change hs'' hCL hC₀) (fun p hp => ?_) o1⟩
    refine ⟨hs''.extBut _ _ ?_ (N' p hp).1, (N' p hp).2⟩
    rcases List.mem_cons.mp hp with rfl | hp
    · exact Ne.symm hCD
    · exact offC p hp

theorem rest_str {elt : PySem.Expr} {x : PySem.Str} {scope : Scope} {cl : List (PySem.Str × Addr)} {S : List (Addr × Obj) → Prop} {Fin : List Value → List (Addr × Obj) → Prop} {news : List (Addr × Obj)} {tx : PySem.Str} (g : Nat → PySem.Str)
    (turn : ∀ c t I oI C oC D m₂ ys h tk (E' : Value → Shared → Prop), c ∈ cd tx → NsObj oC m₂ → m₂ x = some (.str ⟨#[c]⟩ t) → Fr h₀ L h m → News h₀ L h ((I, oI) :: (C, oC) :: (D, lst ys) :: news) → Off3 I C D news → ((@Ne Nat I C) ∧ (@Ne Nat I D) ∧ (@Ne Nat C D)) →
      wpAny (model prog w) A (eval elt (compEnvC scope cl C env)) (CompEnd h₀ L m { s with heap := h, toks := tk } I oI C oC D (lst ys) S (fun y news' => KCtEl news (g c) y news')) E' { s with heap := h, toks := tk })
    (fin : ∀ ys, StrsAre ys ((cd tx).map g) → Fin ys news) : CompRest prog w A h₀ L m env elt x scope cl s S (SignAt tx) Fin tx.cps.size 0 [] news := by
  have hl : (cd tx).length = tx.cps.size := by simp [cd]
  have key : ∀ (j i : Nat) (ys : List Value), i + j = tx.cps.size → StrsAre ys (((cd tx).take i).map g) → CompRest prog w A h₀ L m env elt x scope cl s S (SignAt tx) Fin j i ys news := by
    intro j
    induction j with
    | zero =>
      intro i ys hi hy
      have e : i = (cd tx).length := by omega
      rw [e, List.take_length] at hy
      exact CompRest.zero (fin ys hy)
    | succ j ih =>
      intro i ys hi hy
      refine CompRest.succ ?_
      intro v I oI C oC D m₂ h tk E' hv hC hx F N off ne
      obtain ⟨c, u, hc, rfl⟩ := hv
      have hc' : (cd tx)[i]? = some c := by simpa [cd] using hc
      refine wpAny_mono (turn c u I oI C oC D m₂ ys h tk E' (List.mem_of_getElem? hc') hC hx F N off ne) (fun y s₂ hq => ?_) fun _ _ e => e
      obtain ⟨h', tk', nw, e, F', N', off', hS, hn, t', hy'⟩ := hq
      rw [hn] at N' off' hS
      refine ⟨h', tk', news, e, F', N', off', hS, ?_⟩
      rw [hy']
      refine ih (i + 1) _ (by omega) ?_
      rw [List.take_add_one, hc', List.map_append]
      exact kct_snoc hy
  exact key tx.cps.size 0 [] (by omega) (by simp only [List.take_zero, List.map_nil]; exact .nil)

/-! with one test -/
def SrcST (prog : Program) (w : World) (A : Around) (h₀ : Heap) (L : Addr) (m : PySem.Str → Option Value) (env : Env) (ct elt : PySem.Expr) (x : PySem.Str) (scope : Scope) (cl : List (PySem.Str × Addr)) (Fin : Shared → List Value → List (Addr × Obj) → Prop) (xv : Value) (s₁ : Shared) : Prop :=
  ∃ tx t news, xv = .str tx t ∧ A.handled = none ∧ Fr h₀ L s₁.heap m ∧ News h₀ L s₁.heap news ∧ tx.length ≤ sizeLine ∧
    ∀ s₂ : Shared, (∃ h, s₂ = { s₁ with heap := h }) → CompRestT prog w A h₀ L m env ct elt x scope cl s₂ (fun _ => True) (SignAt tx) (Fin s₂) tx.cps.size 0 [] news
theorem SrcST.intro {ct elt : PySem.Expr} {x : PySem.Str} {scope : Scope} {cl : List (PySem.Str × Addr)} {Fin : Shared → List Value → List (Addr × Obj) → Prop} {tx : PySem.Str} {t : Tok} {news : List (Addr × Obj)} {s₁ : Shared}
    (hh : A.handled = none) (F : Fr h₀ L s₁.heap m) (N : News h₀ L s₁.heap news) (hsz : tx.length ≤ sizeLine)
    (h : ∀ g, CompRestT prog w A h₀ L m env ct elt x scope cl { s₁ with heap := g } (fun _ => True) (SignAt tx) (Fin { s₁ with heap := g }) tx.cps.size 0 [] news) :
    SrcST prog w A h₀ L m env ct elt x scope cl Fin (.str tx t) s₁ := ⟨tx, t, news, rfl, hh, F, N, hsz, fun _ ⟨g, e⟩ => e ▸ h g⟩
theorem ListComp_ST {ct elt iter : PySem.Expr} {x : PySem.Str} {px : Pos} {scope : Scope} {cl : List (PySem.Str × Addr)} {pos : Pos} {Q : Value → Shared → Prop} (_F₀ : Fr h₀ L s.heap m)
    (hclos : closureFor scope env = pure cl) (hcell : ∀ y ∈ scope.names, y.2 ≠ .cell) (hkind : scope.kind = .function)
    (hnames : ∀ y ∈ scope.names, y.2 = .local → scope.names.lookup y.1 = some .local) (hx : scope.names.lookup x = some .local)
    (h : wpAny (model prog w) A (eval iter env) (SrcST prog w A h₀ L m env ct elt x scope cl (fun s₂ => FinE h₀ L m s₂ Q)) E s)
    (hs : ∀ x, foldedSetIterable iter env x = pure x := by intro _; rfl) :
    wpAny (model prog w) A (eval (.ListComp elt [⟨.Name x px, iter, [ct], 0⟩] scope pos) env) Q E s := by
  rw [eval_ListComp]
  refine wpAny_comprehension_free (use := none) rfl hs hclos hkind hnames (wpAny_mono h (fun xv s₁ h₁ => ?_) fun _ _ e => e)
  obtain ⟨tx, t, news, rfl, hh, F, N, hsz, R⟩ := h₁
  refine wpAny_pyIter_strU ?_
  refine block_T (walks_str hh _ tx t) hsz (fun i h st => by obtain ⟨o, e, _⟩ := st; exact ⟨o, e⟩) (fun i h h' o nw st e e' _ _ _ => str_st st e e') hcell hkind hx ⟨_, Heap.get?_push_size _ rfl, rfl, rfl⟩ (fun b hb => ?_)
    (F.keeps fun _ _ e => Heap.get?_push_of_some _ e) (N.grown fun _ _ e => Heap.get?_push_of_some _ e) (Nat.ne_of_lt F.ns.lt) (next_is_new F) (fun p hp => Nat.ne_of_lt (Heap.lt_size (N p hp).1)) trivial (R _ ⟨_, rfl⟩) ?_
  · rw [List.mem_singleton.mp hb]
    show s₁.heap.objs.size < (s₁.heap.push _).objs.size
    rw [Heap.size_push]; exact Nat.lt_succ_self _
  · intro D C h tk m' ys news' F' N' o1 hn hC₀ hD₀ hCL hDL hCD offC fin
    refine ⟨m', hn, fun h'' hs'' => fin D h'' tk (F'.change hs'' hCL hC₀) (fun p hp => ?_) o1⟩
    refine ⟨hs''.extBut _ _ ?_ (N' p hp).1, (N' p hp).2⟩
    rcases List.mem_cons.mp hp with rfl | hp
    · exact Ne.symm hCD
    · exact offC p hp

/-- a test's end: the answer, and all else as it stood -/
def TestEnd (h₀ : Heap) (L : Addr) (m : PySem.Str → Option Value) (s₁ : Shared) (all : List (Addr × Obj)) (b : Bool) (ok : Bool) (s₂ : Shared) : Prop :=
  ok = b ∧ ∃ h' tk, s₂ = { s₁ with heap := h', toks := tk } ∧ Fr h₀ L h' m ∧ News h₀ L h' all
theorem TestEnd.intro {s₁ : Shared} {all : List (Addr × Obj)} {b ok : Bool} {h' : Heap} {tk : Nat} (e : ok = b) (F : Fr h₀ L h' m) (N : News h₀ L h' all) : TestEnd h₀ L m s₁ all b ok { s₁ with heap := h', toks := tk } := ⟨e, h', tk, rfl, F, N⟩
theorem rest_strT {ct : PySem.Expr} {x : PySem.Str} {px : Pos} {scope : Scope} {cl : List (PySem.Str × Addr)} {Fin : List Value → List (Addr × Obj) → Prop} {news : List (Addr × Obj)} {tx : PySem.Str} (p : Nat → Bool)
    (turn : ∀ c t I oI C oC D m₂ ys h tk (E' : Value → Shared → Prop), c ∈ cd tx → NsObj oC m₂ → m₂ x = some (.str ⟨#[c]⟩ t) → Fr h₀ L h m → News h₀ L h ((I, oI) :: (C, oC) :: (D, lst ys) :: news) → Off3 I C D news → ((@Ne Nat I C) ∧ (@Ne Nat I D) ∧ (@Ne Nat C D)) →
      wpAny (model prog w) A (isTrue ct (compEnvC scope cl C env) (eval ct (compEnvC scope cl C env))) (TestEnd h₀ L m { s with heap := h, toks := tk } ((I, oI) :: (C, oC) :: (D, lst ys) :: news) (p c)) E' { s with heap := h, toks := tk })
    (elts : ∀ c t I oI C oC D m₂ ys h tk (E' : Value → Shared → Prop), NsObj oC m₂ → m₂ x = some (.str ⟨#[c]⟩ t) → Fr h₀ L h m → News h₀ L h ((I, oI) :: (C, oC) :: (D, lst ys) :: news) → Off3 I C D news →
      wpAny (model prog w) A (eval (.Name x px) (compEnvC scope cl C env)) (CompEnd h₀ L m { s with heap := h, toks := tk } I oI C oC D (lst ys) (fun _ => True) (fun y news' => KCtEl news ⟨#[c]⟩ y news')) E' { s with heap := h, toks := tk })
    (fin : ∀ ys, StrsAre ys (((cd tx).filter p).map fun c => (⟨#[c]⟩ : PySem.Str)) → Fin ys news) : CompRestT prog w A h₀ L m env ct (.Name x px) x scope cl s (fun _ => True) (SignAt tx) Fin tx.cps.size 0 [] news := by
  have hl : (cd tx).length = tx.cps.size := by simp [cd]
  have key : ∀ (j i : Nat) (ys : List Value), i + j = tx.cps.size → StrsAre ys ((((cd tx).take i).filter p).map fun c => (⟨#[c]⟩ : PySem.Str)) → CompRestT prog w A h₀ L m env ct (.Name x px) x scope cl s (fun _ => True) (SignAt tx) Fin j i ys news := by
    intro j
    induction j with
    | zero =>
      intro i ys hi hy
      have e : i = (cd tx).length := by omega
      rw [e, List.take_length] at hy
      exact CompRestT.zero (fin ys hy)
    | succ j ih =>
      intro i ys hi hy
      refine CompRestT.succ ?_
      intro v I oI C oC D m₂ h tk E' hv hC hx F N off ne
      obtain ⟨c, u, hc, rfl⟩ := hv
      have hc' : (cd tx)[i]? = some c := by simpa [cd] using hc
      refine wpAny_mono (turn c u I oI C oC D m₂ ys h tk E' (List.mem_of_getElem? hc') hC hx F N off ne) (fun ok s₂ hq => ?_) fun _ _ e => e
      obtain ⟨hok, h', tk', rfl, F', N'⟩ := hq
      cases hp : p c with
      | true =>
        rw [hp] at hok
        rw [if_pos hok]
        refine wpAny_mono (elts c u I oI C oC D m₂ ys h' tk' E' hC hx F' N' off) (fun y s₃ hq => ?_) fun _ _ e => e
        obtain ⟨h₃, tk₃, nw, e, F₃, N₃, off₃, hS, hn, t', hy'⟩ := hq
        rw [hn] at N₃ off₃
        refine ⟨h₃, tk₃, news, e, F₃, N₃, off₃, hS, ?_⟩
        rw [hy']
        refine ih (i + 1) _ (by omega) ?_
        rw [List.take_add_one, hc', List.filter_append, List.map_append]
        have : List.filter p (some c).toList = [c] := by simp [hp]
        rw [this]
        exact kct_snoc hy
      | false =>
        rw [hp] at hok
        rw [if_neg (by rw [hok]; exact Bool.false_ne_true)]
        refine ⟨h', tk', news, rfl, F', N', off, trivial, ?_⟩
        refine ih (i + 1) _ (by omega) ?_
        rw [List.take_add_one, hc', List.filter_append, List.map_append]
        have : List.filter p (some c).toList = [] := by simp [hp]
        rw [this]
        simpa using hy
  exact key tx.cps.size 0 [] (by omega) (by simp only [List.take_zero, List.filter_nil, List.map_nil]; exact .nil)
end

section
variable {prog : Program} {w : World} {A : Around} {E : Value → Shared → Prop} {s : Shared}
def one (c : Nat) : PySem.Str := ⟨#[c]⟩
theorem carried_strs : ∀ {ys : List Value} {l : List PySem.Str}, StrsAre ys l → CarriedAll ys (l.map PyData.str) := fun h => h.carried
theorem canLay_ones : ∀ {l : List Nat}, (∀ c ∈ l, c ∈ al) → PyData.canLayAll0 ((l.map one).map PyData.str) = true
  | [], _ => rfl
  | c :: r, h => by
    have h1 : ∀ c ∈ al, PyData.canLay0 (.str (one c)) = true := by decide +kernel
    have h2 := canLay_ones (l := r) fun d hd => h d (List.mem_cons_of_mem _ hd)
    show (PyData.canLay0 (.str (one c)) && PyData.canLayAll0 ((r.map one).map PyData.str)) = true
    rw [h1 c (h c (List.mem_cons_self ..)), h2]; rfl
theorem depth_ones : ∀ l : List PySem.Str, PyData.depthAll (l.map PyData.str) = 0
  | [] => rfl
  | _ :: r => by simp [PyData.depthAll, PyData.depth, depth_ones r]
theorem shaped_ones {l : List Nat} (h : ∀ c ∈ l, c ∈ al) : SeqAt.shaped (.list ((l.map one).map PyData.str)) = true := by
  simp only [SeqAt.shaped, PyData.canLay0, PyData.depth, canLay_ones h, depth_ones]
  decide
theorem same_nil (l : List PySem.Str) : PySem.Spec.same (.list (l.map PyData.str)) (.list ([] : List PyData)) = decide (l = []) := by
  cases l <;> simp [PySem.Spec.same, PySem.Spec.sameAll]
theorem eq_nil {a b : Addr} {ys : List Value} {l : List Nat} {Q : Value → Shared → Prop} (ha : s.heap.IsList a ys.toArray) (hy : StrsAre ys (l.map fun c => (⟨#[c]⟩ : PySem.Str))) (hl : ∀ c ∈ l, c ∈ al) (hb : s.heap.IsList b ([] : List Value).toArray)
    (hu : A.units + 64 < cLine) (h : Q (.bool (decide (l = []))) s) : wpAny (model prog w) A (compareOp .Eq (.ref a) (.ref b)) Q E s := by
  have hy' : StrsAre ys (l.map one) := hy
  refine eq_dataH_same (reads_newData ha (carried_strs hy')) (reads_newData hb .nil) (shaped_ones hl) rfl hu (SeqAt.noMix_of_shape (.list .str) rfl _ _ (by rw [List.map_map]; exact list_map_has fun _ => rfl) rfl) ?_
  rw [same_nil]
  have e : decide (l.map one = []) = decide (l = []) := by cases l <;> simp
  rw [e]; exact h
theorem ne_nil {a b : Addr} {ys : List Value} {l : List Nat} {Q : Value → Shared → Prop} (ha : s.heap.IsList a ys.toArray) (hy : StrsAre ys (l.map fun c => (⟨#[c]⟩ : PySem.Str))) (hl : ∀ c ∈ l, c ∈ al) (hb : s.heap.IsList b ([] : List Value).toArray)
    (hu : A.units + 64 < cLine) (h : Q (.bool (!decide (l = []))) s) : wpAny (model prog w) A (compareOp .NotEq (.ref a) (.ref b)) Q E s := by
  have hy' : StrsAre ys (l.map one) := hy
  refine ne_dataH_same (reads_newData ha (carried_strs hy')) (reads_newData hb .nil) (shaped_ones hl) rfl hu (SeqAt.noMix_of_shape (.list .str) rfl _ _ (by rw [List.map_map]; exact list_map_has fun _ => rfl) rfl) ?_
  rw [same_nil]
  have e : decide (l.map one = []) = decide (l = []) := by cases l <;> simp
  rw [e]; exact h

theorem isStr_at (k : PySem.Str) : ∀ {vs : List Value} {ys : List PySem.Str}, StrsAre vs ys → ∀ (j : Nat) (h : j < vs.length) (h' : j < ys.length), isStrOf k vs[j] = decide (ys[j] = k)
  | _, _, .cons n t r, 0, _, _ => rfl
  | _, _, .cons n t r, j + 1, h, h' => isStr_at k r j (Nat.lt_of_succ_lt_succ h) (Nat.lt_of_succ_lt_succ h')
theorem index_strs {l : Addr} {vs : List Value} {ys : List PySem.Str} {k : PySem.Str} {t : Tok} {Q : Value → Shared → Prop} (hl : s.heap.IsList l vs.toArray) (hi : StrsAre vs ys) (hk : k ∈ ys) (hn : ys.length ≤ 1000)
    (h : Q (.int ((ys.findIdx fun z => decide (z = k)) : Nat) s.toks) { s with toks := s.toks + 1 }) :
    wpAny (model prog w) A (call (.builtin "list.index") [.ref l, .str k t]) Q E s := by
  obtain ⟨⟨cls, dd, data, sl⟩, ho, hc, n, hd⟩ := id hl
  simp only at hc hd
  subst hc hd
  have hlen := hi.length
  have hj : (ys.findIdx fun z => decide (z = k)) < ys.length := List.findIdx_lt_length_of_exists ⟨k, hk, decide_eq_true rfl⟩
  refine call_meets PySem.F.slot_list_index ⟨_, ho, rfl⟩ PySem.F.entry_list_index (PySem.F.args_list_index_2 _ _)
    (list_indexAt l vs.toArray n dd sl (.str k t) (isStrOf k) (ys.findIdx fun z => decide (z = k)) (by simpa [hlen] using hj) (by omega) ?_ ?_) ⟨ho, fun y hy => (eq_isStrOf k t hi y (by simpa using hy)).at _ _, h⟩
  · show isStrOf k vs[ys.findIdx fun z => decide (z = k)] = true
    rw [isStr_at k hi _ (by omega) hj]
    exact List.findIdx_getElem (w := hj)
  · intro j hjs hlt
    show isStrOf k vs[j] = false
    rw [isStr_at k hi j (by simpa using hjs) (by omega)]
    simpa using List.not_of_lt_findIdx hlt
end
end Mine
end

section
/-! part: PlainLoop -/
open PySem PySem.W PyProof.Rows PySem.Calls PyProof.V PySem.Spec
set_option maxRecDepth 100000
set_option maxHeartbeats 2000000
namespace Mine
def handP (T : Nat) (c : Nat) (y : List Nat) : List Nat := if c = 82 then pR y else if c = 81 then pQ y else pX T y
def bnd : Nat → Nat
  | 0 => 2376
  | 1 => 396
  | 2 => 66
  | _ => 11
def tN : PySem.Str := PySem.Str.ofString "told"
def mN : PySem.Str := PySem.Str.ofString "mark"
def hN : PySem.Str := PySem.Str.ofString "hand"
abbrev PMap (m₁ : PySem.Str → Option Value) (told : PySem.Str) (tt : Tok) (vm vh : Option Value) : PySem.Str → Option Value :=
  fun z => if z = PySem.Str.ofString "told" then some (.str told tt) else if z = PySem.Str.ofString "mark" then vm else if z = PySem.Str.ofString "hand" then vh else m₁ z
def PInv (m₁ : PySem.Str → Option Value) (k : Nat) (y : List Nat) (m : PySem.Str → Option Value) : Prop :=
  ∃ told tt vm vh, cd told = y ∧ Good (bnd k) told ∧ m = PMap m₁ told tt vm vh
section
variable {prog : Program} {w : World} {A : Around} {E : Value → Shared → Prop} {s : Shared} {env : Env} {h₀ : Heap} {x : PySem.Str} {body : List Stmt} {Q : Flow → Shared → Prop}
theorem rest_inv {c₁ I : Addr} {m₁ : PySem.Str → Option Value} {T : Nat} (hI : c₁ < I)
    (turn : ∀ c k told tt vm vh o v u it h tk, c = 82 ∨ c = 81 ∨ c = 88 → k < 3 → Good (bnd (k + 1)) told → o.data = .cell v →
      Fr h₀ env.locals h (fun z => if z = x then some (.str ⟨#[c]⟩ u) else PMap m₁ told tt vm vh z) → News h₀ env.locals h [(I, it), (c₁, o)] →
      wpAny (model prog w) A (execs body env) (UnrPost h₀ env.locals { s with heap := h, toks := tk } I it (fun m' news' => PInv m₁ k (handP T c (cd told)) m' ∧ ∃ o v, news' = [(c₁, o)] ∧ o.data = .cell v) Q) E { s with heap := h, toks := tk })
    {yf : List Nat} (done : ∀ told tt vm vh o v h tk, cd told = yf → Good (bnd 0) told → o.data = .cell v → Fr h₀ env.locals h (PMap m₁ told tt vm vh) → News h₀ env.locals h [(c₁, o)] → Q .next { s with heap := h, toks := tk }) :
    ∀ (l : List Nat) (y : List Nat) (m : PySem.Str → Option Value) (o : Obj) (v : Option Value), (∀ c ∈ l, c = 82 ∨ c = 81 ∨ c = 88) → l.length ≤ 3 → PInv m₁ l.length y m → o.data = .cell v → l.foldl (fun y c => handP T c y) y = yf →
      StrRest prog w A E h₀ env x body Q s I (l.map fun c => (⟨#[c]⟩ : PySem.Str)) m [(c₁, o)]
  | [], y, m, o, v, _, _, hi, ho, hy => by
    obtain ⟨told, tt, vm, vh, e, hg, rfl⟩ := hi
    refine StrRest.zero fun h tk F N => ?_
    exact done told tt vm vh o v h tk (e.trans hy) hg ho F N
  | c :: r, y, m, o, v, hc, hl, hi, ho, hy => by
    obtain ⟨told, tt, vm, vh, e, hg, rfl⟩ := hi
    subst e
    refine StrRest.succ fun u it h tk F N => ?_
    have hl' : r.length + 1 ≤ 3 := by simpa using hl
    refine wpAny_mono (turn c r.length told tt vm vh o v u it h tk (hc c (List.mem_cons_self ..)) (by omega) hg ho F N) (fun f s₂ p => ?_) fun _ _ e => e
    have fin : UnrEnd h₀ env.locals { s with heap := h, toks := tk } I it (fun m' news' => PInv m₁ r.length (handP T c (cd told)) m' ∧ ∃ o v, news' = [(c₁, o)] ∧ o.data = .cell v) s₂ →
        UnrEnd h₀ env.locals { s with heap := h, toks := tk } I it (StrRest prog w A E h₀ env x body Q s I (r.map fun c => (⟨#[c]⟩ : PySem.Str))) s₂ := by
      rintro ⟨h', tk', m', news', e', F', N', off, hin, o', v', rfl, ho'⟩
      exact ⟨h', tk', m', _, e', F', N', off, rest_inv hI turn done r _ m' o' v' (fun d hd => hc d (List.mem_cons_of_mem _ hd)) (by omega) hin ho' hy⟩
    cases f with
    | ret v => exact p
    | brk => exact p
    | next => exact fin p
    | cont => exact fin p
theorem loop_plain {c₁ : Addr} {m₁ : PySem.Str → Option Value} {tx x₀ : PySem.Str} {t t₀ : Tok} {o₁ : Obj} {v₁ : Option Value} (T : Nat)
    (hh : A.handled = none) (F : Fr h₀ env.locals s.heap (fun y => if y = PySem.Str.ofString "told" then some (.str x₀ t₀) else m₁ y)) (N : News h₀ env.locals s.heap [(c₁, o₁)]) (ho : o₁.data = .cell v₁)
    (hg : Good 11 x₀) (hP : ∀ c ∈ cd tx, c = 82 ∨ c = 81 ∨ c = 88) (hl : tx.length = 3)
    (turn : ∀ c k told tt vm vh o v I u it h tk, c = 82 ∨ c = 81 ∨ c = 88 → k < 3 → Good (bnd (k + 1)) told → o.data = .cell v → c₁ < I →
      Fr h₀ env.locals h (fun z => if z = x then some (.str ⟨#[c]⟩ u) else PMap m₁ told tt vm vh z) → News h₀ env.locals h [(I, it), (c₁, o)] →
      wpAny (model prog w) A (execs body env) (UnrPost h₀ env.locals { s with heap := h, toks := tk } I it (fun m' news' => PInv m₁ k (handP T c (cd told)) m' ∧ ∃ o v, news' = [(c₁, o)] ∧ o.data = .cell v) Q) E { s with heap := h, toks := tk })
    (done : ∀ told tt vm vh o v h tk, cd told = (cd tx).foldl (fun y c => handP T c y) (cd x₀) → o.data = .cell v → Fr h₀ env.locals h (PMap m₁ told tt vm vh) → News h₀ env.locals h [(c₁, o)] → Q .next { s with heap := h, toks := tk }) :
    wpAny (model prog w) A (pyIter (.str tx t)) (fun it s₂ => LoopAtV prog w A h₀ env x body Q E it s₂) E s := by
  have hl' : (cd tx).length = 3 := by rw [cd_len]; exact hl
  refine iter_strUnr hh F N rfl fun I hI => ?_
  have hI' : c₁ < I := hI (c₁, o₁) (List.mem_cons_self ..)
  refine rest_inv (T := T) (yf := (cd tx).foldl (fun y c => handP T c y) (cd x₀)) hI' (fun c k told tt vm vh o v u it h tk a b d e F N => turn c k told tt vm vh o v I u it h tk a b d e hI' F N) (fun told tt vm vh o v h tk a _ c d e => done told tt vm vh o v h tk a c d e)
    (cd tx) (cd x₀) _ o₁ v₁ hP (by omega) ⟨x₀, t₀, m₁ (PySem.Str.ofString "mark"), m₁ (PySem.Str.ofString "hand"), rfl, by rw [hl']; exact hg, ?_⟩ ho rfl
  funext z
  unfold PMap
  by_cases h1 : z = PySem.Str.ofString "told"
  · rw [if_pos h1, if_pos h1]
  · rw [if_neg h1, if_neg h1]
    by_cases h2 : z = PySem.Str.ofString "mark"
    · rw [if_pos h2, h2]
    · rw [if_neg h2]
      by_cases h3 : z = PySem.Str.ofString "hand"
      · rw [if_pos h3, h3]
      · rw [if_neg h3]

structure IxMark (T : Nat) : Prop where
theorem loop_plain3 {c₁ : Addr} {m₁ : PySem.Str → Option Value} {tx x₀ : PySem.Str} {t t₀ : Tok} {o₁ : Obj} {v₁ : Option Value} {T : Nat} (_ : IxMark T)
    (hh : A.handled = none) (F : Fr h₀ env.locals s.heap (fun y => if y = PySem.Str.ofString "told" then some (.str x₀ t₀) else m₁ y)) (N : News h₀ env.locals s.heap [(c₁, o₁)]) (ho : o₁.data = .cell v₁)
    (hg : Good 11 x₀) (hP : ∀ c ∈ cd tx, c = 82 ∨ c = 81 ∨ c = 88) (hl : tx.length = 3)
    (turnR : ∀ k told tt vm vh o v I u it h tk, k < 3 → Good (bnd (k + 1)) told → o.data = .cell v → @LT.lt Nat _ c₁ I →
      Fr h₀ env.locals h (fun z => if z = x then some (.str ⟨#[82]⟩ u) else PMap m₁ told tt vm vh z) → News h₀ env.locals h [(I, it), (c₁, o)] →
      wpAny (model prog w) A (execs body env) (UnrPost h₀ env.locals { s with heap := h, toks := tk } I it (fun m' news' => PInv m₁ k (pR (cd told)) m' ∧ ∃ o v, news' = [(c₁, o)] ∧ o.data = .cell v) Q) E { s with heap := h, toks := tk })
    (turnQ : ∀ k told tt vm vh o v I u it h tk, k < 3 → Good (bnd (k + 1)) told → o.data = .cell v → @LT.lt Nat _ c₁ I →
      Fr h₀ env.locals h (fun z => if z = x then some (.str ⟨#[81]⟩ u) else PMap m₁ told tt vm vh z) → News h₀ env.locals h [(I, it), (c₁, o)] →
      wpAny (model prog w) A (execs body env) (UnrPost h₀ env.locals { s with heap := h, toks := tk } I it (fun m' news' => PInv m₁ k (pQ (cd told)) m' ∧ ∃ o v, news' = [(c₁, o)] ∧ o.data = .cell v) Q) E { s with heap := h, toks := tk })
    (turnX : ∀ k told tt vm vh o v I u it h tk, k < 3 → Good (bnd (k + 1)) told → o.data = .cell v → @LT.lt Nat _ c₁ I →
      Fr h₀ env.locals h (fun z => if z = x then some (.str ⟨#[88]⟩ u) else PMap m₁ told tt vm vh z) → News h₀ env.locals h [(I, it), (c₁, o)] →
      wpAny (model prog w) A (execs body env) (UnrPost h₀ env.locals { s with heap := h, toks := tk } I it (fun m' news' => PInv m₁ k (pX T (cd told)) m' ∧ ∃ o v, news' = [(c₁, o)] ∧ o.data = .cell v) Q) E { s with heap := h, toks := tk })
    (done : ∀ told tt vm vh o v h tk, cd told = (cd tx).foldl (fun y c => handP T c y) (cd x₀) → o.data = .cell v → Fr h₀ env.locals h (PMap m₁ told tt vm vh) → News h₀ env.locals h [(c₁, o)] → Q .next { s with heap := h, toks := tk }) :
    wpAny (model prog w) A (pyIter (.str tx t)) (fun it s₂ => LoopAtV prog w A h₀ env x body Q E it s₂) E s := by
  refine loop_plain T hh F N ho hg hP hl (fun c k told tt vm vh o v I u it h tk hc hk a b d F N => ?_) done
  rcases hc with rfl | rfl | rfl
  · exact turnR k told tt vm vh o v I u it h tk hk a b d F N
  · exact turnQ k told tt vm vh o v I u it h tk hk a b d F N
  · exact turnX k told tt vm vh o v I u it h tk hk a b d F N

theorem bnd_six {k : Nat} (hk : k < 3) : 6 * bnd (k + 1) ≤ bnd k := by
  rcases (by omega : k = 0 ∨ k = 1 ∨ k = 2) with rfl | rfl | rfl <;> decide
theorem good_cd {n : Nat} {x y : PySem.Str} (h : cd x = cd y) (hy : Good n y) : Good n x := ⟨by rw [← cd_len, h, cd_len]; exact hy.len, by rw [h]; exact hy.al⟩
theorem unr_p {I c₁ L : Addr} {it o : Obj} {all : List (Addr × Obj)} {m₁ m' : PySem.Str → Option Value} {k : Nat} {told' z : PySem.Str} {tt : Tok} {vm vh : Option Value} {v : Option Value} {h' : Heap} {tk : Nat} {s₁ : Shared} {y : List Nat} {n : Nat}
    (F : Fr h₀ L h' m') (N : News h₀ L h' all) (hI : (I, it) ∈ all) (hc : (c₁, o) ∈ all) (ne : @LT.lt Nat _ c₁ I) (ho : o.data = .cell v) (hm : m' = PMap m₁ told' tt vm vh) (hk : k < 3) (hn : n = bnd (k + 1)) (hz : cd z = y) (hgz : Good (6 * n) z) (hcd : cd told' = y) :
    UnrEnd h₀ L s₁ I it (fun m' news' => PInv m₁ k y m' ∧ ∃ o v, news' = [(c₁, o)] ∧ o.data = .cell v) { s₁ with heap := h', toks := tk } := by
  refine ⟨h', tk, m', [(c₁, o)], rfl, F, fun p hp => ?_, fun p hp => ?_, ⟨told', tt, vm, vh, hcd, ?_, hm⟩, o, v, rfl, ho⟩
  · rcases List.mem_cons.mp hp with rfl | hp
    · exact N _ hI
    · rw [List.mem_singleton.mp hp]; exact N _ hc
  · rw [List.mem_singleton.mp hp]; exact Nat.ne_of_lt ne
  · subst hn
    exact (good_cd (hcd.trans hz.symm) hgz).le (bnd_six hk)
theorem map2 {m₁ : PySem.Str → Option Value} {told told' : PySem.Str} {tt tt' : Tok} {vm vh a u : Option Value} :
    (fun y => if y = PySem.Str.ofString "told" then some (.str told' tt') else if y = PySem.Str.ofString "mark" then a else if y = PySem.Str.ofString "hand" then u else PMap m₁ told tt vm vh y) = PMap m₁ told' tt' a u := by
  funext z
  by_cases h1 : z = PySem.Str.ofString "told" <;> by_cases h2 : z = PySem.Str.ofString "mark" <;> by_cases h3 : z = PySem.Str.ofString "hand" <;> simp only [h1, h2, h3, PMap, if_true, if_false]
theorem map3 {m₁ : PySem.Str → Option Value} {told told' : PySem.Str} {tt tt' : Tok} {vm vh a b u : Option Value} :
    (fun y => if y = PySem.Str.ofString "told" then some (.str told' tt') else if y = PySem.Str.ofString "mark" then a else if y = PySem.Str.ofString "mark" then b else if y = PySem.Str.ofString "hand" then u else PMap m₁ told tt vm vh y) = PMap m₁ told' tt' a u := by
  funext z
  by_cases h1 : z = PySem.Str.ofString "told" <;> by_cases h2 : z = PySem.Str.ofString "mark" <;> by_cases h3 : z = PySem.Str.ofString "hand" <;> simp only [h1, h2, h3, PMap, if_true, if_false]
  rw [if_neg (by decide +kernel), if_neg (by decide +kernel), if_neg (by decide +kernel), if_neg (by decide +kernel), if_neg (by decide +kernel)]
end

section
variable {prog : Program} {w : World} {A : Around} {E : Value → Shared → Prop} {s : Shared} {x y : PySem.Str} {t u : Tok} {Q : Value → Shared → Prop}
theorem in_sign (k : Nat) (hy : y = ⟨#[k]⟩) (h : Q (.bool (decide (k ∈ cd x))) s) : wpAny (model prog w) A (compareOp .In (.str y u) (.str x t)) Q E s := by
  subst hy
  refine in_str ?_
  rw [occ_in x _ rfl]
  exact h
theorem notIn_sign (k : Nat) (hy : y = ⟨#[k]⟩) (h : Q (.bool (!decide (k ∈ cd x))) s) : wpAny (model prog w) A (compareOp .NotIn (.str y u) (.str x t)) Q E s := by
  subst hy
  refine notIn_str ?_
  rw [occ_in x _ rfl]
  exact h
end
end Mine
end

section
/-! part: PlainTab -/
open PySem PySem.W PyProof.Rows PySem.Calls PyProof.V PySem.Spec
set_option maxRecDepth 100000
set_option maxHeartbeats 2000000
namespace Mine
/-! a dict of texts by texts, and what it answers -/
def IsTab (prog : Program) (w : World) (o : Obj) (D : List (PyData × PyData)) : Prop := ∃ kvs, o.IsDictOf (strKind prog w) kvs ∧ FlatPairs PyData.str kvs D
structure DMark (D : List (PyData × PyData)) : Prop where
def gOf (D : List (PyData × PyData)) (c : Nat) : PySem.Str := match (Spec.lookup (.str ⟨#[c]⟩) D).getD (.str ⟨#[c]⟩) with
  | .str r => r
  | _ => PySem.Str.empty
def allStr (D : List (PyData × PyData)) : Bool := D.all fun p => match p.1, p.2 with | .str _, .str _ => true | _, _ => false
def rDict (mk : PySem.Str) : List (PyData × PyData) :=
  [(.str (PySem.Str.ofString "\\"), .str (PySem.Str.ofString "\\\\")), (.str (PySem.Str.ofString "\n"), .str (PySem.Str.ofString "\\n")), (.str (PySem.Str.ofString "\r"), .str (PySem.Str.ofString "\\r")), (.str (PySem.Str.ofString "\t"), .str (PySem.Str.ofString "\\t")),
   (.str mk, .str (PySem.Str.ofString "\\" ++ mk))]
def qDict : List (PyData × PyData) := [(.str (PySem.Str.ofString "'"), .str (PySem.Str.ofString "'\"'\"'"))]
theorem lookup_str {k : PySem.Str} : ∀ {D : List (PyData × PyData)} {d : PyData}, allStr D = true → Spec.lookup (.str k) D = some d → ∃ r, d = .str r
  | [], _, _, h => by simp [Spec.lookup] at h
  | (a, b) :: r, d, hD, h => by
    unfold allStr at hD
    rw [List.all_cons, Bool.and_eq_true] at hD
    simp only [Spec.lookup] at h
    split at h
    · cases h
      cases a <;> cases b <;> simp at hD
      exact ⟨_, rfl⟩
    · exact lookup_str hD.2 h
theorem gOf_flat {D : List (PyData × PyData)} {c : Nat} {v : Value} (hD : allStr D = true) (hf : Flat v ((Spec.lookup (.str ⟨#[c]⟩) D).getD (.str ⟨#[c]⟩))) : ∃ t, v = .str (gOf D c) t := by
  unfold gOf
  cases h : Spec.lookup (.str (⟨#[c]⟩ : PySem.Str)) D with
  | none => rw [h] at hf; exact hf.str_inv
  | some d =>
    obtain ⟨r, rfl⟩ := lookup_str hD h
    rw [h] at hf
    exact hf.str_inv
theorem allStr_tabD (T : Int) : allStr (tabD T) = true := by unfold tabD; (repeat' split) <;> rfl
theorem kct_tab {D : List (PyData × PyData)} {c : Nat} {v : Value} {news : List (Addr × Obj)} (hD : allStr D = true) (hf : Flat v ((Spec.lookup (.str ⟨#[c]⟩) D).getD (.str ⟨#[c]⟩))) : KCtEl news (gOf D c) v news := ⟨rfl, gOf_flat hD hf⟩

section
variable {prog : Program} {w : World} {A : Around} {E : Value → Shared → Prop} {s : Shared} {env : Env} {h₀ : Heap} {L d : Addr} {m : PySem.Str → Option Value} {news : List (Addr × Obj)} {g : Obj → List (Addr × Obj)} {o : Obj} {Q : Value → Shared → Prop}
theorem made_tab {vs : List (Value × Value)} {D : List (PyData × PyData)} (F : Fr h₀ L s.heap m) (N : News h₀ L s.heap news) (U : UpdF d o news g) (hd : o.IsDictOf (PySem.strKind prog w) []) (hk : allStrKeys vs = true) (hn : ((strPairs vs).map (·.1)).Nodup) (hv : allFlat vs = true) (hD : strData vs = D)
    (h : ∀ h' o' tk', Fr h₀ L h' m → News h₀ L h' (g o') → IsTab prog w o' D → DMark D → Q (.ref d) { s with heap := h', toks := tk' }) : KdnMade prog w (PySem.strKind prog w) d Q vs s :=
  kdn_made_strF F N U hd hk hn hv fun h' o' F' N' a b => h h' o' _ F' N' ⟨_, a, hD ▸ b⟩ DMark.mk
theorem new_tab {pos : Pos} (F : Fr h₀ L s.heap m) (N : News h₀ L s.heap news) (hbig : h₀.NoLimit)
    (k : ∀ d h' o, Fr h₀ L h' m → News h₀ L h' ((d, o) :: news) → (∀ p ∈ news, p.1 < d) → (d == sysModules) = false → IsTab prog w o [] → DMark [] → Q (.ref d) { s with heap := h' }) : wpAny (model prog w) A (eval (.Dict [] [] pos) env) Q E s :=
  newDict_K F N hbig fun d h' o F' N' l lo a b _ _ => k d h' o F' N' l lo ⟨[], a, b⟩ DMark.mk
theorem tab_news {D : List (PyData × PyData)} {h : Heap} (N : News h₀ L h news) (hp : (d, o) ∈ news) (lo : (d == sysModules) = false) (hT : IsTab prog w o D) : StrTab prog w h d D := by
  obtain ⟨kvs, a, b⟩ := hT
  exact TabAt.ofNews N hp lo a b
theorem const_flat {x : PySem.Str} {k : Nat} {pos : Pos} {hp : Heap} {gg : Array GenState} {dr : Drawn} {tk : Nat} {os : OsState} (h : ∀ t tk', Q (.str x t) ⟨hp, gg, dr, tk', os⟩) : wpAny (model prog w) A (eval (.Constant (.str x) k pos) env) Q E ⟨hp, gg, dr, tk, os⟩ :=
  Calls.Constant_str (h _ _)
end

/-! told, turn by turn -/
theorem mark_a {y : List Nat} (h : decide (39 ∈ y) = false) : markOf y = 39 := mark39 (of_decide_eq_false h)
theorem mark_b {y : List Nat} (h : decide (39 ∈ y) = true) (h' : (!decide (34 ∈ y)) = true) : markOf y = 34 := mark34 (of_decide_eq_true h) (by simpa using h')
theorem mark_c {y : List Nat} (h' : (!decide (34 ∈ y)) = false) : markOf y = 39 := mark39' (by simpa using h')
theorem cd_told (D : List (PyData × PyData)) (told mk : PySem.Str) : cd (mk ++ Txt.join (PySem.Str.ofString "") ((cd told).map (gOf D)) ++ mk) = cd mk ++ (cd told).flatMap (fun c => cd (gOf D c)) ++ cd mk := by
  rw [cd_append, cd_append, cd_join, List.flatMap_map]
theorem fin_R39 {told : PySem.Str} (h : ∀ c ∈ cd told, c ∈ al) (hm : markOf (cd told) = 39) :
    cd (PySem.Str.ofString "'" ++ Txt.join (PySem.Str.ofString "") ((cd told).map (gOf (rDict (PySem.Str.ofString "'")))) ++ PySem.Str.ofString "'") = pR (cd told) := by
  rw [cd_told, show cd (PySem.Str.ofString "'") = [39] by decide +kernel]
  unfold pR
  rw [hm]
  congr 2
  refine flat_congr fun c hc => ?_
  exact (by decide +kernel : ∀ c ∈ al, cd (gOf (rDict (PySem.Str.ofString "'")) c) = sp (reTab 39) c) c (h c hc)
theorem fin_R34 {told : PySem.Str} (h : ∀ c ∈ cd told, c ∈ al) (hm : markOf (cd told) = 34) :
    cd (PySem.Str.ofString "\"" ++ Txt.join (PySem.Str.ofString "") ((cd told).map (gOf (rDict (PySem.Str.ofString "\"")))) ++ PySem.Str.ofString "\"") = pR (cd told) := by
  rw [cd_told, show cd (PySem.Str.ofString "\"") = [34] by decide +kernel]
  unfold pR
  rw [hm]
  congr 2
  refine flat_congr fun c hc => ?_
  exact (by decide +kernel : ∀ c ∈ al, cd (gOf (rDict (PySem.Str.ofString "\"")) c) = sp (reTab 34) c) c (h c hc)
theorem fin_X {T : Int} {told : PySem.Str} (h : ∀ c ∈ cd told, c ∈ al) :
    cd (PySem.Str.ofString "" ++ Txt.join (PySem.Str.ofString "") ((cd told).map (gOf (tabD T))) ++ PySem.Str.ofString "") = pX (ix T) (cd told) := by
  rw [cd_told, show cd (PySem.Str.ofString "") = [] by decide +kernel, List.nil_append, List.append_nil]
  unfold pX
  refine flat_congr fun c hc => ?_
  have hc' := h c hc
  unfold tabD ix
  repeat' split
  · exact (by decide +kernel : ∀ c ∈ al, cd (gOf [(.str (PySem.Str.ofString "&"), .str (PySem.Str.ofString "&amp;")), (.str (PySem.Str.ofString "<"), .str (PySem.Str.ofString "&lt;")), (.str (PySem.Str.ofString ">"), .str (PySem.Str.ofString "&gt;"))] c) = sp (tb 0) c) c hc'
  all_goals (revert c; intro c hc hc'; clear hc; revert c)
  all_goals decide +kernel
theorem fin_Qw {told : PySem.Str} (h : ¬ (cd told ≠ [] ∧ calm (cd told) = true)) :
    cd (PySem.Str.ofString "'" ++ Txt.join (PySem.Str.ofString "") ((cd told).map (gOf qDict)) ++ PySem.Str.ofString "'") = pQ (cd told) := by
  rw [cd_told, show cd (PySem.Str.ofString "'") = [39] by decide +kernel]
  unfold pQ
  rw [if_neg h]
  unfold wrap
  congr 2
  refine flat_congr fun c hc => ?_
  unfold gOf qDict sp quTab
  have e : PySem.Str.ofString "'" = ⟨#[39]⟩ := by decide +kernel
  by_cases hc : c = 39
  · subst hc; decide +kernel
  · have h1 : Spec.lookup (.str (⟨#[c]⟩ : PySem.Str)) [(.str (PySem.Str.ofString "'"), .str (PySem.Str.ofString "'\"'\"'"))] = none := by
      rw [e]
      simp [Spec.lookup, PySem.Spec.same, Ne.symm hc]
    rw [h1]
    simp [List.lookup, beq_eq_false_iff_ne.mpr hc, cd]
theorem fin_Qs {told : PySem.Str} (h : cd told ≠ [] ∧ calm (cd told) = true) :
    cd (PySem.Str.ofString "" ++ Txt.join (PySem.Str.ofString "") ((cd told).map (gOf [])) ++ PySem.Str.ofString "") = pQ (cd told) := by
  rw [cd_told, show cd (PySem.Str.ofString "") = [] by decide +kernel, List.nil_append, List.append_nil]
  unfold pQ
  rw [if_pos h]
  have : ∀ c, cd (gOf [] c) = [c] := fun c => rfl
  simp only [this]
  induction cd told with
  | nil => rfl
  | cons c r ih => rw [List.flatMap_cons, ih]; rfl

/-! the list of signs that make quote wrap, as the law asks it -/
theorem calm_filter (y : List Nat) : (decide (y.filter (fun c => decide (c ∈ bad)) = [])) = calm y := by
  unfold calm
  rw [Bool.eq_iff_iff]
  simp only [decide_eq_true_eq, List.filter_eq_nil_iff, List.all_eq_true, Bool.not_eq_true', List.contains_eq_mem, decide_eq_false_iff_not]
section
variable {prog : Program} {w : World} {A : Around} {s : Shared} {h₀ : Heap} {L : Addr} {m : PySem.Str → Option Value} {env : Env}
open LCg LCt
theorem rest_tab {D : List (PyData × PyData)} (_ : DMark D) {elt : PySem.Expr} {x : PySem.Str} {scope : Scope} {cl : List (PySem.Str × Addr)} {S : List (Addr × Obj) → Prop} {Fin : List Value → List (Addr × Obj) → Prop} {news : List (Addr × Obj)} {tx : PySem.Str}
    (turn : ∀ c t I oI C oC D' m₂ ys h tk (E' : Value → Shared → Prop), c ∈ cd tx → NsObj oC m₂ → m₂ x = some (.str ⟨#[c]⟩ t) → Fr h₀ L h m → News h₀ L h ((I, oI) :: (C, oC) :: (D', lst ys) :: news) → Off3 I C D' news → ((@Ne Nat I C) ∧ (@Ne Nat I D') ∧ (@Ne Nat C D')) →
      wpAny (model prog w) A (eval elt (compEnvC scope cl C env)) (CompEnd h₀ L m { s with heap := h, toks := tk } I oI C oC D' (lst ys) S (fun y news' => KCtEl news (gOf D c) y news')) E' { s with heap := h, toks := tk })
    (fin : ∀ ys, StrsAre ys ((cd tx).map (gOf D)) → Fin ys news) : CompRest prog w A h₀ L m env elt x scope cl s S (SignAt tx) Fin tx.cps.size 0 [] news := rest_str (gOf D) turn fin
end
theorem bnd_le (k : Nat) : bnd k ≤ 2376 := by
  unfold bnd
  split <;> omega
theorem good_2376 {k : Nat} {x : PySem.Str} (h : Good (bnd k) x) : x.length ≤ 2376 := by
  have h1 := h.len
  have h2 := bnd_le k
  omega
theorem good_size {k : Nat} {x : PySem.Str} (h : Good (bnd k) x) : x.length ≤ sizeLine := by
  have := good_2376 h
  rw [sizeLine_eq]
  omega
def shortD (D : List (PyData × PyData)) : Bool := D.all fun p => match p.2 with | .str r => decide (r.length ≤ 6) | _ => false
theorem gOf_short {D : List (PyData × PyData)} (hD : shortD D = true) (c : Nat) : (gOf D c).length ≤ 6 := by
  have key : ∀ {D : List (PyData × PyData)} {d : PyData}, shortD D = true → Spec.lookup (.str (⟨#[c]⟩ : PySem.Str)) D = some d → ∃ r, d = .str r ∧ r.length ≤ 6 := by
    intro D
    induction D with
    | nil => intro d _ h; simp [Spec.lookup] at h
    | cons q r ih =>
      intro d hD h
      obtain ⟨a, b⟩ := q
      unfold shortD at hD
      rw [List.all_cons, Bool.and_eq_true] at hD
      simp only [Spec.lookup] at h
      split at h
      · cases h
        cases d <;> simp at hD
        exact ⟨_, rfl, hD.1⟩
      · exact ih hD.2 h
  unfold gOf
  cases h : Spec.lookup (.str (⟨#[c]⟩ : PySem.Str)) D with
  | none => show (1 : Nat) ≤ 6; omega
  | some d =>
    obtain ⟨r, rfl, hr⟩ := key hD h
    exact hr
theorem shortD_tabD (T : Int) : shortD (tabD T) = true := by unfold tabD; (repeat' split) <;> decide +kernel
theorem join_len {D : List (PyData × PyData)} (hD : shortD D = true) (y : List Nat) : (Txt.join (PySem.Str.ofString "") (y.map (gOf D))).length ≤ 6 * y.length := by
  rw [← cd_len, cd_join, List.flatMap_map]
  exact len_flat fun c _ => by rw [cd_len]; exact gOf_short hD c
theorem sum_len {D : List (PyData × PyData)} (hD : shortD D = true) : ∀ y : List Nat, ((y.map (gOf D)).map (·.length)).sum ≤ 6 * y.length
  | [] => Nat.le_refl _
  | c :: r => by
    have h1 := sum_len hD r
    have h2 := gOf_short hD c
    simp only [List.map_cons, List.sum_cons, List.length_cons]
    omega
section
variable {prog : Program} {w : World} {A : Around} {E : Value → Shared → Prop} {s : Shared} {Q : Value → Shared → Prop}
theorem join_tab {D : List (PyData × PyData)} {a : Addr} {ys : List Value} {told : PySem.Str} {t : Tok} {k : Nat} (hD : shortD D = true) (hg : Good (bnd k) told) (hl : s.heap.IsList a ys.toArray) (hy : StrsAre ys ((cd told).map (gOf D)))
    (h : ∀ t' k, (Txt.join (PySem.Str.ofString "") ((cd told).map (gOf D))).length ≤ 14256 → Q (.str (Txt.join (PySem.Str.ofString "") ((cd told).map (gOf D))) t') { s with toks := k }) :
    wpAny (model prog w) A (call (.builtin "str.join") [.str (PySem.Str.ofString "") t, .ref a]) Q E s := by
  have hn := good_2376 hg
  have hn' : (cd told).length ≤ 2376 := by rw [cd_len]; exact hn
  refine join_listW hl hy (by decide) ?_ fun t' k => h t' k ?_
  · have := sum_len hD (cd told)
    rw [List.length_map]
    omega
  · have := join_len hD (cd told)
    omega
theorem ne_empty {x : PySem.Str} {t u : Tok} (h : Q (.bool (!decide (cd x = []))) s) : wpAny (model prog w) A (compareOp .NotEq (.str x t) (.str (PySem.Str.ofString "") u)) Q E s := by
  refine ne_str ?_
  have e : (x == PySem.Str.ofString "") = decide (cd x = []) := by
    rw [Bool.eq_iff_iff, beq_iff_eq, decide_eq_true_eq]
    constructor
    · rintro rfl; decide +kernel
    · intro h
      have : x.cps = #[] := Array.toList_inj.mp h
      obtain ⟨c⟩ := x
      simp only at this
      subst this
      decide +kernel
  rw [show (x != PySem.Str.ofString "") = !(x == PySem.Str.ofString "") from rfl, e]
  exact h
end
theorem test_bad (c : Nat) : decide (c ∈ cd (PySem.Str.ofString "'\"\\&<>\n\r\t ;#")) = decide (c ∈ bad) := by
  rw [show cd (PySem.Str.ofString "'\"\\&<>\n\r\t ;#") = bad by decide +kernel]
theorem q_safe {y : List Nat} (h1 : (!decide (y = [])) = true) (h2 : decide (y.filter (fun c => decide (c ∈ bad)) = []) = true) : y ≠ [] ∧ calm y = true := ⟨by simpa using h1, by rw [← calm_filter]; exact h2⟩
theorem q_wrap1 {y : List Nat} (h1 : (!decide (y = [])) = false) : ¬ (y ≠ [] ∧ calm y = true) := fun h => h.1 (by simpa using h1)
theorem q_wrap2 {y : List Nat} (h2 : decide (y.filter (fun c => decide (c ∈ bad)) = []) = false) : ¬ (y ≠ [] ∧ calm y = true) := fun h => by rw [calm_filter, h.2] at h2; cases h2
theorem q_safe' {y : List Nat} (h1 : ¬ y = []) (h2 : y.filter (fun c => decide (c ∈ bad)) = []) : y ≠ [] ∧ calm y = true := ⟨h1, by rw [← calm_filter]; exact decide_eq_true h2⟩
theorem q_wrap1' {y : List Nat} (h1 : y = []) : ¬ (y ≠ [] ∧ calm y = true) := fun h => h.1 h1
theorem q_wrap2' {y : List Nat} (h2 : ¬ y.filter (fun c => decide (c ∈ bad)) = []) : ¬ (y ≠ [] ∧ calm y = true) := fun h => by
  have h3 := h.2
  rw [← calm_filter] at h3
  exact h2 (of_decide_eq_true h3)
end Mine
end

section
/-! part: Contr7 -/
open PySem PySem.W PyProof.Rows PySem.Calls PyProof.V PySem.Spec
set_option maxRecDepth 100000
set_option maxHeartbeats 8000000
namespace Mine

local macro_rules | `(tactic| k_tabat) => `(tactic| first | exact tab_news (by k_asm) (by k_mem) (by assumption) (by assumption) | exact TabAt.keep (by assumption) (Fr.keep (by k_asm)))
local macro_rules | `(tactic| walk_at "pyIter str") => `(tactic| (k_here; (with_reducible show wpAny _ _ (pyIter (Value.str _ _)) (fun it s₂ => LoopAtV _ _ _ _ _ _ _ _ _ it s₂) _ _); k_dflt (refine' loop_plain3 ?kM ?kh ?kF ?kN ?ko ?kg ?kP ?kl (fun k told tt vm vh o v I u it h tk hk hg ho hI F N => ?_) (fun k told tt vm vh o v I u it h tk hk hg ho hI F N => ?_) (fun k told tt vm vh o v I u it h tk hk hg ho hI F N => ?_) (fun told tt vm vh o v h tk hy ho F N => ?_); (case kM => assumption); (case kh => exact rfl); (case kF => k_asm); (case kN => k_asm); (case ko => assumption); (case kg => assumption); (case kP => assumption); (case kl => assumption))))

theorem words_Contr71 : True := by
  k_with_none
  (k_with "my enterP" => (refine' enterP ?k1 ?k2 ?k3 ?k4 ?k5 ?kA ?kF ?kK ?k6 ?k7 ?k8 ?k9 ?kB ?_ ?c2 ?c3 ?c4 ?c5; (case kA => exact rfl); (case kF => exact rfl); (case kK => assumption); (case k1 => k_asm); (case k2 => k_asm); (case k3 => k_asm); (case k4 => k_asm); (case k5 => k_asm); (case k6 => k_is); (case k7 => k_is); (case k8 => ktr_room); (case k9 => first | exact BindsTo.of_eq rfl | exact binds_K (by k_in) rfl (by k_is) rfl rfl rfl); (case c5 => decide); (case kB => exact locs rfl); (case c2 => exact rfl); (case c3 => exact rfl); (case c4 => exact rfl); k_whole; intro L' h' F' N' B' X' T'; (try dsimp only); (try k_lift B'); (try k_fold)))
  (k_with "my enterC" => (refine' enterC ?k1 ?k2 ?k3 ?k4 ?k5 ?kA ?kF ?kK ?k6 ?k7 ?k8 ?k9 ?kB ?kD ?_ ?c2 ?c3 ?c4; (case kA => exact rfl); (case kF => exact rfl); (case kK => assumption); (case k1 => k_asm); (case k2 => k_asm); (case k3 => k_asm); (case k4 => k_asm); (case k5 => k_asm); (case k6 => k_is); (case k7 => k_is); (case k8 => ktr_room); (case k9 => first | exact BindsTo.of_eq rfl | exact binds_K (by k_in) rfl (by k_is) rfl rfl rfl); (case kB => exact rfl); (case kD => decide +kernel); (case c2 => exact rfl); (case c3 => exact rfl); (case c4 => exact rfl); k_whole; intro L' h' tk' cells' F' N' Y' B' X' T'; k_cells Y'; (try simp only [List.cons_append, List.nil_append] at N'); (try dsimp only); (try k_lift B'); (try k_fold)))
  (k_with "LeaveN" => (k_dflt (refine' leaveN_ ?k1 ?_; (case k1 => k_asm)); intro kF kN; (try dsimp only)))
  (k_with "exec For Name Name" => (k_here; walk_at "last exec For Name Name"))
  (k_with "exec For Name Name cons nil" => (k_here; (rename Fr _ _ _ _ => lF'); (with_unfolding_all refine' For_invVF lF' ?k1 ?k2 ?_; (case k1 => exact rfl); (case k2 => exact rfl); k_whole)))
  (k_with "exec Assign cons Dict" => (k_here; refine wpAny_Assign_Name ?_))
  (k_with "eval Dict cons" => (k_here; k_dflt (refine' kdn_eval (knd := PySem.strKind _ _) ?F ?N ?b ?a ?l ?e ?n ?_; (case F => k_asm); (case N => k_asm); (case b => exact Top.nolimit (by k_asm)); (case a => rfl); (case l => rfl); (case e => exact List.cons_ne_nil _ _); (case n => exact Nat.le_of_ble_eq_true rfl)); intro d' h' o' F' N' l1 lo' hd'; (try k_lt l1)))
  (k_with "eval Dict nil nil" => (k_here; k_dflt (refine' new_tab ?F ?N (Top.nolimit (by k_asm)) ?_; (case F => k_asm); (case N => k_asm); k_whole); intro d' h' o' F' N' l1 lo' hT' hM'; (try k_lt l1)))
  (k_with "eval Constant str" => (k_here; (refine const_flat ?_); intro _ _))
  (k_with "KdnMade" => (k_here; k_dflt ((first | (refine' made_tab (D := rDict (PySem.Str.ofString "'")) ?F ?N ?U ?d ?k ?n ?v ?D ?_; (case D => exact rfl)) | (refine' made_tab (D := rDict (PySem.Str.ofString "\"")) ?F ?N ?U ?d ?k ?n ?v ?D ?_; (case D => exact rfl)) | (refine' made_tab (D := qDict) ?F ?N ?U ?d ?k ?n ?v ?D ?_; (case D => exact rfl))); (case F => k_asm); (case N => k_asm); (case U => k_updF); (case d => k_asm); (case k => rfl); (case n => exact of_decide_eq_true (by first | rfl | kernel_rfl!)); (case v => rfl); intro h' o' tk' F' N' hT' hM'); (try dsimp only at N')))
  (k_with "eval ListComp" => (k_here; (fail_if_success lct_look); k_dflt (refine ListComp_S (_F₀ := by k_asm) (by with_unfolding_all rfl) (by decide) (by rfl) (by decide) (by rfl) ?_)))
  (k_with "eval ListComp" => (k_here; lct_look; k_dflt (refine ListComp_ST (_F₀ := by k_asm) (by with_unfolding_all rfl) (by decide) (by rfl) (by decide) (by rfl) ?_)))
  (k_with "SrcS" => (k_here; k_dflt (refine SrcS.intro (by rfl) (by k_asm) (by k_asm) (good_size (by assumption)) ?_; intro g'; (refine' rest_tab ?kD (fun c t I oI C oC D m₂ ys h tk E' hc hC hx F' N' off' ne' => ?_) (fun ys hys => ?_); (case kD => assumption)); (all_goals (try (simp only [LCg.Off3, and_true] at off'))); (all_goals (try k_fold)))))
  (k_with "KCtEl" => k_dflt (first | exact kct_el rfl rfl rfl | exact kct_tab rfl (by assumption) | exact kct_tab (allStr_tabD _) (by assumption)))
  (k_with "SrcST" => (k_here; k_dflt (refine SrcST.intro (by rfl) (by k_asm) (by k_asm) (good_size (by assumption)) ?_; intro g'; (refine' rest_strT (fun c => decide (c ∈ bad)) (fun c t I oI C oC D m₂ ys h tk E' hc hC hx F' N' off' ne' => ?_) (fun c t I oI C oC D m₂ ys h tk E' hC hx F' N' off' => ?_) (fun ys hys => ?_)); (all_goals (try (simp only [LCg.Off3, and_true] at off'))); (all_goals (try k_fold)))))
  (k_with "UnrEnd" => (k_dflt (refine' unr_p ?F ?N ?a ?b ?ne ?ho ?hm ?hk ?hn ?hz ?hgz ?hcd; (case F => k_asm); (case N => k_asm); (case a => k_mem); (case b => k_mem); (case ne => assumption); (case ho => assumption); (case hm => first | with_reducible exact map3 | with_reducible exact map2); (case hk => assumption); (case hz => first | with_reducible exact cd_repr (Good.al (by assumption)) | with_reducible exact cd_quote _ | with_reducible exact cd_esc (Good.al (by assumption))); (case hgz => first | with_reducible exact good_repr (by assumption) | with_reducible exact good_quote (by assumption) | with_reducible exact good_esc (by assumption)); (case hn => rfl); (case hcd => first | with_reducible exact fin_R39 (Good.al (by assumption)) (mark39 (by assumption)) | with_reducible exact fin_R39 (Good.al (by assumption)) (mark39' (by assumption)) | with_reducible exact fin_R34 (Good.al (by assumption)) (mark34 (by assumption) (by assumption)) | with_reducible exact fin_Qs (q_safe' (by assumption) (by assumption)) | with_reducible exact fin_Qw (q_wrap1' (by assumption)) | with_reducible exact fin_Qw (q_wrap2' (by assumption)) | with_reducible exact fin_X (Good.al (by assumption))))))
  (k_with "TestEnd" => k_dflt (exact TestEnd.intro (test_bad _) (by k_asm) (by k_asm)))
  (k_with "compareOp Eq ref ref" => (k_here; k_dflt (refine eq_nil (by first | is_list | exact News.isList (by k_asm) (by k_mem)) (by assumption) (fun c hc => Good.al (by assumption) c (List.mem_filter.mp hc).1) (by exact News.isList (by k_asm) (by k_mem)) (by ktr_units) ?_)))
  (k_with "compareOp NotEq str str" => (k_here; refine ne_empty ?_))
  (k_with "call builtin:str.join" => (k_here; k_dflt ((first | refine join_tab (D := rDict (PySem.Str.ofString "'")) (by decide +kernel) (by assumption) (by exact News.isList (by k_asm) (by k_mem)) (by assumption) ?_ | refine join_tab (D := rDict (PySem.Str.ofString "\"")) (by decide +kernel) (by assumption) (by exact News.isList (by k_asm) (by k_mem)) (by assumption) ?_ | refine join_tab (D := qDict) (by decide +kernel) (by assumption) (by exact News.isList (by k_asm) (by k_mem)) (by assumption) ?_ | refine join_tab (D := []) rfl (by assumption) (by exact News.isList (by k_asm) (by k_mem)) (by assumption) ?_ | refine join_tab (shortD_tabD _) (by assumption) (by exact News.isList (by k_asm) (by k_mem)) (by assumption) ?_); intro _ _ _)))
  (k_with "compareOp In str str" => (k_here; first | refine in_sign 39 (by decide +kernel) ?_ | refine in_sign 34 (by decide +kernel) ?_ | refine in_sign _ rfl ?_))
  (k_with "compareOp NotIn str str" => (k_here; first | refine notIn_sign 39 (by decide +kernel) ?_ | refine notIn_sign 34 (by decide +kernel) ?_ | refine notIn_sign _ rfl ?_))
  trivial
local macro_rules | `(tactic| walk_at $s:str) => `(tactic| k_extra $s)
theorem plain_claim (w : World) (p : Program) (loose : List Str) (mean : ExcName → Option Value) (mg mb : Str → Option Value) (news : List (Addr × Obj)) (dp un : Nat) (gd : Option (List Code)) (cn : Str) (cs : Scope) (a : Addr) (ccd : Value) (cl : List (Str × Addr)) (outer : List Env) (A₀ : Around) (base h₀ : Heap) (L : Addr) (m : Str → Option Value) (s : Shared) (Q E : Value → Shared → Prop)
    (T : Int) (d : Addr) (tx x : Str) (tO t : Tok) : (hd.heap_39 w.params).In h₀ → ∀ (_ : Below A₀ base outer h₀) (_ : Fr h₀ L s.heap m) (_ : News h₀ L s.heap news) (_ : Top p loose mean mg mb h₀) (_ : cs.kind = .function)
    (_ : dp + 6 < recursionLimit) (_ : un + 100 < cLine) (_ : Good 11 x) (_ : ∀ c ∈ cd tx, c = 82 ∨ c = 81 ∨ c = 88) (_ : tx.length = 3) (_ : StrTab PySem.Challenge.rw_in0207_01.row.prog w s.heap d (tabD T))
    (_ : ∀ y t h' tk', cd y = (cd tx).foldl (fun y c => handP (ix T) c y) (cd x) → Fr h₀ L h' m → News h₀ L h' news → Q (.str y t) { s with heap := h', toks := tk' }),
    wpAny (model PySem.Challenge.rw_in0207_01.row.prog w) (ktrTop dp un gd cn cs L a ccd cl outer) (call (.ref 125) [.str tx tO, .ref d, .str x t]) Q E s := by
  w_strict (
  k_fill
  intro X B F N Tp hk hd hu hg hP hl hT hret
  have hM : IxMark (ix T) := IxMark.mk
  have hMD : DMark (tabD T) := DMark.mk
  refine wpAny_call ?_
  k_dflt (walk_at "my enterC")
  k_steps
  all_goals (refine hret _ _ _ _ (by assumption) (by k_asm) (by k_asm)))
end Mine
end

section
/-! part: LawL -/
open PySem PySem.W PyProof.Rows PySem.Calls PyProof.V PySem.Spec PySem.SeqAt
set_option maxRecDepth 100000
set_option maxHeartbeats 2000000
namespace Mine
structure LMark (T : Int) (x : PySem.Str) : Prop where
structure TMark (x : PySem.Str) : Prop where
structure EMark : Prop where
theorem tab_some (T : Int) : ∀ c ∈ [34, 13, 10, 9], (Spec.lookup (.str (⟨#[c]⟩ : PySem.Str)) (tabD T)).isSome = ((tb (ix T)).lookup c).isSome := by
  unfold tabD ix
  (repeat' split) <;> decide +kernel
theorem tab_marked (T : Int) : (Spec.lookup (.str (PySem.Str.ofString "\"")) (tabD T)).isSome = marked (ix T) := by
  rw [show PySem.Str.ofString "\"" = ⟨#[34]⟩ by decide +kernel]
  exact tab_some T 34 (by decide)
def d1 (T : Nat) (t : List Nat) : Int := if spelt T t || parted T t then 1 else 0
def d2 (T : Nat) : Int := if marked T then 2 else 0
def d4 (T : Nat) (t : List Nat) : Int := if alike T t then 3 else 4
def d5 (T : Nat) (t : List Nat) : Int := if alike T t then 3 else if parted T t then 5 else 4
def runs (T : Int) (x : PySem.Str) : List PySem.Str := [runF T "RXQ" x, runF T "XRQ" x, runF T "RQX" x, runF T "QRX" x, runF T "XQR" x, runF T "QXR" x]
structure IsRun (T : Int) (x : PySem.Str) (o : String) (y : PySem.Str) : Prop where
  eq : y = runF T o x
structure IsM (T : Int) (b : Bool) : Prop where
  eq : b = marked (ix T)
structure IsP (T : Int) (x : PySem.Str) (b : Bool) : Prop where
  eq : b = parted (ix T) (cd x)
structure IsS (T : Int) (x : PySem.Str) (b : Bool) : Prop where
  eq : b = spelt (ix T) (cd x)
structure IsF (x : PySem.Str) (b : Bool) : Prop where
  eq : b = safe (cd x)
structure IsA (T : Int) (x : PySem.Str) (b : Bool) : Prop where
  eq : b = alike (ix T) (cd x)
structure Is1 (T : Int) (x : PySem.Str) (n : Int) : Prop where
  eq : n = d1 (ix T) (cd x)
structure Is2 (T : Int) (n : Int) : Prop where
  eq : n = d2 (ix T)
structure Is4 (T : Int) (x : PySem.Str) (n : Int) : Prop where
  eq : n = d4 (ix T) (cd x)
structure Is5 (T : Int) (x : PySem.Str) (n : Int) : Prop where
  eq : n = d5 (ix T) (cd x)
def idx (T : Int) (x : PySem.Str) (o : String) : Int := ((runs T x).findIdx fun z => decide (z = runF T o x) : Nat)
structure IsIdx (T : Int) (x : PySem.Str) (o : String) (n : Int) : Prop where
  eq : n = idx T x o

section
variable {prog : Program} {w : World} {A : Around} {E : Value → Shared → Prop} {s : Shared} {h₀ : Heap} {L : Addr} {m : PySem.Str → Option Value} {all : List (Addr × Obj)} {Q : Value → Shared → Prop} {env : Env} {T : Int} {x : PySem.Str}
def ValEnd (h₀ : Heap) (L : Addr) (m : PySem.Str → Option Value) (s₁ : Shared) (all : List (Addr × Obj)) (P : Value → Prop) (v : Value) (s₂ : Shared) : Prop := P v ∧ ∃ h' tk, s₂ = { s₁ with heap := h', toks := tk } ∧ Fr h₀ L h' m ∧ News h₀ L h' all
theorem ValEnd.intro {s₁ : Shared} {P : Value → Prop} {v : Value} {h' : Heap} {tk : Nat} (e : P v) (F : Fr h₀ L h' m) (N : News h₀ L h' all) : ValEnd h₀ L m s₁ all P v { s₁ with heap := h', toks := tk } := ⟨e, h', tk, rfl, F, N⟩
theorem news_tail {h : Heap} {p : Addr × Obj} (N : News h₀ L h (p :: all)) : News h₀ L h all := fun q hq => N q (List.mem_cons_of_mem _ hq)
theorem cutB (b : Bool) {e : PySem.Expr} (_ : Fr h₀ L s.heap m) (_ : News h₀ L s.heap all) (h : EMark → wpAny (model prog w) A (eval e env) (ValEnd h₀ L m s all (fun v => v = .bool b)) E s)
    (k : ∀ h' tk', Fr h₀ L h' m → News h₀ L h' all → Q (.bool b) { s with heap := h', toks := tk' }) : wpAny (model prog w) A (eval e env) Q E s :=
  wpAny_mono (h EMark.mk) (fun v s' hv => by obtain ⟨rfl, h', tk, rfl, F, N⟩ := hv; exact k h' tk F N) fun _ _ y => y
theorem cutI (n : Int) {e : PySem.Expr} (_ : Fr h₀ L s.heap m) (_ : News h₀ L s.heap all) (h : EMark → wpAny (model prog w) A (eval e env) (ValEnd h₀ L m s all (fun v => ∃ t, v = .int n t)) E s)
    (k : ∀ t h' tk', Fr h₀ L h' m → News h₀ L h' all → Q (.int n t) { s with heap := h', toks := tk' }) : wpAny (model prog w) A (eval e env) Q E s :=
  wpAny_mono (h EMark.mk) (fun v s' hv => by obtain ⟨⟨t, rfl⟩, h', tk, rfl, F, N⟩ := hv; exact k t h' tk F N) fun _ _ y => y
open LCt in
theorem cutT {R : Bool → Shared → Prop} {o : BoolOp} {a b c b2 : PySem.Expr} {ops : List CmpOp} {l : List PySem.Expr} {p1 p2 p3 : Pos} (_ : Fr h₀ L s.heap m) (_ : News h₀ L s.heap all)
    (h : EMark → wpAny (model prog w) A (isTrue (.BoolOp o [.Compare (.Subscript a b p1) ops l p2, c] p3) env (eval b2 env)) (TestEnd h₀ L m s all false) E s)
    (k : ∀ h' tk', Fr h₀ L h' m → News h₀ L h' all → R false { s with heap := h', toks := tk' }) : wpAny (model prog w) A (isTrue (.BoolOp o [.Compare (.Subscript a b p1) ops l p2, c] p3) env (eval b2 env)) R E s :=
  wpAny_mono (h EMark.mk) (fun v s' hv => by obtain ⟨rfl, h', tk, rfl, F, N⟩ := hv; exact k h' tk F N) fun _ _ y => y
theorem cut_parted (_ : LMark T x) {n : PySem.Str} {e2 : PySem.Expr} {p1 p2 : Pos} (F : Fr h₀ L s.heap m) (N : News h₀ L s.heap all) (h : EMark → wpAny (model prog w) A (eval (.BoolOp .And [.Name n p1, e2] p2) env) (ValEnd h₀ L m s all (fun v => v = .bool (parted (ix T) (cd x)))) E s)
    (k : ∀ b h' tk', IsP T x b → Fr h₀ L h' m → News h₀ L h' all → Q (.bool b) { s with heap := h', toks := tk' }) : wpAny (model prog w) A (eval (.BoolOp .And [.Name n p1, e2] p2) env) Q E s := cutB _ F N h (fun h' tk' => k _ h' tk' ⟨rfl⟩)
theorem cut_safe (_ : LMark T x) {a : PySem.Expr} {ops : List CmpOp} {l : List PySem.Expr} {e2 : PySem.Expr} {p1 p2 : Pos} (F : Fr h₀ L s.heap m) (N : News h₀ L s.heap all) (h : EMark → wpAny (model prog w) A (eval (.BoolOp .And [.Compare a ops l p1, e2] p2) env) (ValEnd h₀ L m s all (fun v => v = .bool (safe (cd x)))) E s)
    (k : ∀ b h' tk', IsF x b → Fr h₀ L h' m → News h₀ L h' all → Q (.bool b) { s with heap := h', toks := tk' }) : wpAny (model prog w) A (eval (.BoolOp .And [.Compare a ops l p1, e2] p2) env) Q E s := cutB _ F N h (fun h' tk' => k _ h' tk' ⟨rfl⟩)
theorem cut_alike (_ : LMark T x) {n n2 : PySem.Str} {e2 : PySem.Expr} {p1 p2 p3 : Pos} (F : Fr h₀ L s.heap m) (N : News h₀ L s.heap all) (h : EMark → wpAny (model prog w) A (eval (.IfExp (.Name n p1) (.Name n2 p2) e2 p3) env) (ValEnd h₀ L m s all (fun v => v = .bool (alike (ix T) (cd x)))) E s)
    (k : ∀ b h' tk', IsA T x b → Fr h₀ L h' m → News h₀ L h' all → Q (.bool b) { s with heap := h', toks := tk' }) : wpAny (model prog w) A (eval (.IfExp (.Name n p1) (.Name n2 p2) e2 p3) env) Q E s := cutB _ F N h (fun h' tk' => k _ h' tk' ⟨rfl⟩)
theorem cut_d1 (_ : LMark T x) {o : BoolOp} {l : List PySem.Expr} {e1 e2 : PySem.Expr} {p1 p2 : Pos} (F : Fr h₀ L s.heap m) (N : News h₀ L s.heap all) (h : EMark → wpAny (model prog w) A (eval (.IfExp (.BoolOp o l p1) e1 e2 p2) env) (ValEnd h₀ L m s all (fun v => ∃ t, v = .int (d1 (ix T) (cd x)) t)) E s)
    (k : ∀ n t h' tk', Is1 T x n → Fr h₀ L h' m → News h₀ L h' all → Q (.int n t) { s with heap := h', toks := tk' }) : wpAny (model prog w) A (eval (.IfExp (.BoolOp o l p1) e1 e2 p2) env) Q E s := cutI _ F N h (fun t h' tk' => k _ t h' tk' ⟨rfl⟩)
theorem cut_d2 (_ : LMark T x) {n : PySem.Str} {j : Nat} {e2 : PySem.Expr} {p1 p2 p3 : Pos} (F : Fr h₀ L s.heap m) (N : News h₀ L s.heap all) (h : EMark → wpAny (model prog w) A (eval (.IfExp (.Name n p1) (.Constant (.int 2) j p2) e2 p3) env) (ValEnd h₀ L m s all (fun v => ∃ t, v = .int (d2 (ix T)) t)) E s)
    (k : ∀ n t h' tk', Is2 T n → Fr h₀ L h' m → News h₀ L h' all → Q (.int n t) { s with heap := h', toks := tk' }) : wpAny (model prog w) A (eval (.IfExp (.Name n p1) (.Constant (.int 2) j p2) e2 p3) env) Q E s := cutI _ F N h (fun t h' tk' => k _ t h' tk' ⟨rfl⟩)
theorem cut_d4 (_ : LMark T x) {n : PySem.Str} {j j' : Nat} {p1 p2 p3 p4 : Pos} (F : Fr h₀ L s.heap m) (N : News h₀ L s.heap all) (h : EMark → wpAny (model prog w) A (eval (.IfExp (.Name n p1) (.Constant (.int 3) j p2) (.Constant (.int 4) j' p3) p4) env) (ValEnd h₀ L m s all (fun v => ∃ t, v = .int (d4 (ix T) (cd x)) t)) E s)
    (k : ∀ n t h' tk', Is4 T x n → Fr h₀ L h' m → News h₀ L h' all → Q (.int n t) { s with heap := h', toks := tk' }) : wpAny (model prog w) A (eval (.IfExp (.Name n p1) (.Constant (.int 3) j p2) (.Constant (.int 4) j' p3) p4) env) Q E s := cutI _ F N h (fun t h' tk' => k _ t h' tk' ⟨rfl⟩)
theorem cut_d5 (_ : LMark T x) {n : PySem.Str} {j : Nat} {t1 e1 e2 : PySem.Expr} {p1 p2 p3 p4 : Pos} (F : Fr h₀ L s.heap m) (N : News h₀ L s.heap all) (h : EMark → wpAny (model prog w) A (eval (.IfExp (.Name n p1) (.Constant (.int 3) j p2) (.IfExp t1 e1 e2 p3) p4) env) (ValEnd h₀ L m s all (fun v => ∃ t, v = .int (d5 (ix T) (cd x)) t)) E s)
    (k : ∀ n t h' tk', Is5 T x n → Fr h₀ L h' m → News h₀ L h' all → Q (.int n t) { s with heap := h', toks := tk' }) : wpAny (model prog w) A (eval (.IfExp (.Name n p1) (.Constant (.int 3) j p2) (.IfExp t1 e1 e2 p3) p4) env) Q E s := cutI _ F N h (fun t h' tk' => k _ t h' tk' ⟨rfl⟩)
end

section
variable {T : Int} {x : PySem.Str} {u : Tok} {b b' : Bool}
theorem vp_f (m : IsM T b) (h : b = false) : Value.bool b = .bool (parted (ix T) (cd x)) := by have e := m.eq; subst h; simp [parted, ← e]
theorem vp_f' (m : IsM T b) (h : b = false) : Value.bool false = .bool (parted (ix T) (cd x)) := by have e := m.eq; subst h; simp [parted, ← e]
theorem vp_t (m : IsM T b) (h : b = true) : Value.bool (decide (39 ∈ cd x)) = .bool (parted (ix T) (cd x)) := by have e := m.eq; subst h; simp [parted, ← e, List.contains_eq_mem]
theorem vs_f {t : List Nat} (h : (!decide (t = [])) = false) : Value.bool (!decide (t = [])) = .bool (safe t) := by
  have e : t = [] := by simpa using h
  subst e; rfl
theorem vs_f' {t : List Nat} (h : (!decide (t = [])) = false) : Value.bool false = .bool (safe t) := by
  have e : t = [] := by simpa using h
  subst e; rfl
theorem vs_t {t : List Nat} (h : (!decide (t = [])) = true) : Value.bool (decide (t.filter (fun c => !decide (c ∈ cd (PySem.Str.ofString "a="))) = [])) = .bool (safe t) := by
  have e : t ≠ [] := by simpa using h
  have e2 : cd (PySem.Str.ofString "a=") = [97, 61] := by decide +kernel
  rw [e2]
  congr 1
  unfold safe
  rw [Bool.eq_iff_iff]
  simp only [decide_eq_true_eq, List.filter_eq_nil_iff, List.all_eq_true, Bool.and_eq_true, List.contains_eq_mem, Bool.not_eq_true', decide_eq_false_iff_not, Decidable.not_not]
  exact ⟨fun q => ⟨e, q⟩, fun q => q.2⟩
theorem vs_g {t : List Nat} (h : t = []) : Value.bool (!decide (t = [])) = .bool (safe t) := vs_f (by rw [decide_eq_true h]; rfl)
theorem vs_u {t : List Nat} (h : ¬ t = []) : Value.bool (decide (t.filter (fun c => !decide (c ∈ cd (PySem.Str.ofString "a="))) = [])) = .bool (safe t) := vs_t (by rw [decide_eq_false h]; rfl)
theorem va_t (m : IsM T b) (f : IsF x b') (h : b = true) : Value.bool b' = .bool (alike (ix T) (cd x)) := by have e := m.eq; subst h; rw [f.eq]; simp [alike, ← e]
theorem va_f (m : IsM T b) (f : IsS T x b') (h : b = false) : Value.bool (!b') = .bool (alike (ix T) (cd x)) := by have e := m.eq; subst h; rw [f.eq]; simp [alike, ← e]
theorem v1_a (m : IsS T x b) (h : b = true) : ∃ v, Value.int 1 u = .int (d1 (ix T) (cd x)) v := ⟨u, by have e := m.eq; subst h; simp [d1, ← e]⟩
theorem v1_b (m : IsP T x b) (h : b = true) : ∃ v, Value.int 1 u = .int (d1 (ix T) (cd x)) v := ⟨u, by have e := m.eq; subst h; simp [d1, ← e]⟩
theorem v1_c (m : IsS T x b) (h : b = false) (m' : IsP T x b') (h' : b' = false) : ∃ v, Value.int 0 u = .int (d1 (ix T) (cd x)) v := ⟨u, by have e := m.eq; have e' := m'.eq; subst h h'; simp [d1, ← e, ← e']⟩
theorem v2_a (m : IsM T b) (h : b = true) : ∃ v, Value.int 2 u = .int (d2 (ix T)) v := ⟨u, by have e := m.eq; subst h; simp [d2, ← e]⟩
theorem v2_b (m : IsM T b) (h : b = false) : ∃ v, Value.int 0 u = .int (d2 (ix T)) v := ⟨u, by have e := m.eq; subst h; simp [d2, ← e]⟩
theorem v4_a (m : IsA T x b) (h : b = true) : ∃ v, Value.int 3 u = .int (d4 (ix T) (cd x)) v := ⟨u, by have e := m.eq; subst h; simp [d4, ← e]⟩
theorem v4_b (m : IsA T x b) (h : b = false) : ∃ v, Value.int 4 u = .int (d4 (ix T) (cd x)) v := ⟨u, by have e := m.eq; subst h; simp [d4, ← e]⟩
theorem v5_a (m : IsA T x b) (h : b = true) : ∃ v, Value.int 3 u = .int (d5 (ix T) (cd x)) v := ⟨u, by have e := m.eq; subst h; simp [d5, ← e]⟩
theorem v5_b (m : IsA T x b) (h : b = false) (m' : IsP T x b') (h' : b' = true) : ∃ v, Value.int 5 u = .int (d5 (ix T) (cd x)) v := ⟨u, by have e := m.eq; have e' := m'.eq; subst h h'; simp [d5, ← e, ← e']⟩
theorem v5_c (m : IsA T x b) (h : b = false) (m' : IsP T x b') (h' : b' = false) : ∃ v, Value.int 4 u = .int (d5 (ix T) (cd x)) v := ⟨u, by have e := m.eq; have e' := m'.eq; subst h h'; simp [d5, ← e, ← e']⟩
theorem tf1 {a b : Bool} (h : a = false) : false = (a && b) := by rw [h]; rfl
theorem tf2 {a b : Bool} (h : b = false) : false = (a && b) := by rw [h, Bool.and_false]
theorem tt2 {a b : Bool} (h : a = true) (h' : b = true) : true = (a && b) := by rw [h, h']; rfl
theorem tb2 {a b : Bool} (h : a = true) : b = (a && b) := by rw [h]; rfl
end

/-! the hands on lists of signs -/
theorem hand_cd {T : Int} {c : Char} {x : PySem.Str} (hc : c ∈ ['R', 'Q', 'X']) (h : ∀ d ∈ cd x, d ∈ al) : cd (handF T c x) = handP (ix T) c.toNat (cd x) ∧ ∀ d ∈ cd (handF T c x), d ∈ al := by
  rcases List.mem_cons.mp hc with rfl | hc
  · show cd (reprText x) = pR (cd x) ∧ ∀ d ∈ cd (reprText x), d ∈ al
    rw [cd_repr h]; exact ⟨rfl, pR_al h⟩
  rcases List.mem_cons.mp hc with rfl | hc
  · show cd (quoteF x) = pQ (cd x) ∧ ∀ d ∈ cd (quoteF x), d ∈ al
    rw [cd_quote]; exact ⟨rfl, pQ_al h⟩
  rcases List.mem_singleton.mp hc with rfl
  show cd (escF T x) = pX (ix T) (cd x) ∧ ∀ d ∈ cd (escF T x), d ∈ al
  rw [cd_esc h]; exact ⟨rfl, pX_al (ix_lt T) h⟩
theorem fold_cd {T : Int} : ∀ (l : List Char) (x : PySem.Str), (∀ c ∈ l, c ∈ ['R', 'Q', 'X']) → (∀ d ∈ cd x, d ∈ al) → cd (l.foldl (fun y c => handF T c y) x) = (l.map Char.toNat).foldl (fun y c => handP (ix T) c y) (cd x)
  | [], _, _, _ => rfl
  | c :: r, x, hl, h => by
    have q := hand_cd (T := T) (hl c (List.mem_cons_self ..)) h
    show cd (r.foldl (fun y c => handF T c y) (handF T c x)) = (r.map Char.toNat).foldl (fun y c => handP (ix T) c y) (handP (ix T) c.toNat (cd x))
    rw [fold_cd r _ (fun d hd => hl d (List.mem_cons_of_mem _ hd)) q.2, q.1]
theorem run_cd {T : Int} {x : PySem.Str} {o : String} (ho : (o.toList.all fun c => ['R', 'Q', 'X'].contains c) = true) (hc : cd (PySem.Str.ofString o) = o.toList.map Char.toNat) (h : ∀ d ∈ cd x, d ∈ al) :
    cd (runF T o x) = (cd (PySem.Str.ofString o)).foldl (fun y c => handP (ix T) c y) (cd x) := by
  rw [hc]
  exact fold_cd _ _ (fun c hc => by simpa using List.all_eq_true.mp ho c hc) h
theorem runs_cd {T : Int} {x : PySem.Str} (h : ∀ d ∈ cd x, d ∈ al) : (runs T x).map cd = six (ix T) (cd x) := by
  unfold runs
  simp only [List.map_cons, List.map_nil]
  rw [run_cd (o := "RXQ") (by decide) (by decide +kernel) h, run_cd (o := "XRQ") (by decide) (by decide +kernel) h, run_cd (o := "RQX") (by decide) (by decide +kernel) h, run_cd (o := "QRX") (by decide) (by decide +kernel) h, run_cd (o := "XQR") (by decide) (by decide +kernel) h, run_cd (o := "QXR") (by decide) (by decide +kernel) h]
  rw [show cd (PySem.Str.ofString "RXQ") = [82, 88, 81] by decide +kernel, show cd (PySem.Str.ofString "XRQ") = [88, 82, 81] by decide +kernel, show cd (PySem.Str.ofString "RQX") = [82, 81, 88] by decide +kernel,
    show cd (PySem.Str.ofString "QRX") = [81, 82, 88] by decide +kernel, show cd (PySem.Str.ofString "XQR") = [88, 81, 82] by decide +kernel, show cd (PySem.Str.ofString "QXR") = [81, 88, 82] by decide +kernel]
  rfl
theorem cd_inj {x y : PySem.Str} (h : cd x = cd y) : x = y := PySem.Str.ext' (Array.toList_inj.mp h)
theorem law_ints {T : Int} {x : PySem.Str} (h : ∀ c ∈ cd x, c ∈ L0) :
    [idx T x "RXQ", idx T x "XRQ", idx T x "RQX", idx T x "QRX", idx T x "XQR", idx T x "QXR"] = [0, d1 (ix T) (cd x), d2 (ix T), 3, d4 (ix T) (cd x), d5 (ix T) (cd x)] := by
  have ha : ∀ d ∈ cd x, d ∈ al := fun d hd => L0_al (h d hd)
  have key := law_plain (ix_lt T) h
  rw [← runs_cd ha] at key
  have e : ∀ y : PySem.Str, ((runs T x).map cd).findIdx (fun z => decide (z = cd y)) = (runs T x).findIdx fun z => decide (z = y) := fun y => by
    rw [List.findIdx_map]
    congr 1
    funext z
    simp only [Function.comp]
    rw [decide_eq_decide]
    exact ⟨cd_inj, fun e => by rw [e]⟩
  rw [List.map_map] at key
  have key2 : (runs T x).map (fun y => (runs T x).findIdx fun z => decide (z = y)) = due (ix T) (cd x) := by
    rw [← key]
    refine List.map_congr_left fun y _ => ?_
    exact (e y).symm
  have key3 := congrArg (List.map fun n : Nat => (n : Int)) key2
  have l1 : ((runs T x).map (fun y => (runs T x).findIdx fun z => decide (z = y))).map (fun n : Nat => (n : Int)) = [idx T x "RXQ", idx T x "XRQ", idx T x "RQX", idx T x "QRX", idx T x "XQR", idx T x "QXR"] := rfl
  rw [l1] at key3
  rw [key3]
  unfold due d1 d2 d4 d5
  simp only [List.map_cons, List.map_nil]
  (repeat' split) <;> rfl

section
variable {prog : Program} {w : World} {A : Around} {E : Value → Shared → Prop} {s : Shared} {h₀ : Heap} {L : Addr} {m : PySem.Str → Option Value} {Q : Value → Shared → Prop} {env : Env} {T : Int} {x : PySem.Str}
theorem ne_same {a b : PySem.Str} {t u : Tok} (h : cd a = cd b) (k : Q (.bool false) s) : wpAny (model prog w) A (compareOp .NotEq (.str a t) (.str b u)) Q E s := by
  refine ne_str ?_
  rw [cd_inj h, show (b != b) = false by simp]
  exact k
theorem ne_run {o : String} {y z : PySem.Str} {t u : Tok} (r : IsRun T x o z) (ho : (o.toList.all fun c => ['R', 'Q', 'X'].contains c) = true) (hc : cd (PySem.Str.ofString o) = o.toList.map Char.toNat) (h0 : ∀ d ∈ cd x, d ∈ L0)
    (hy : cd y = (cd (PySem.Str.ofString o)).foldl (fun y c => handP (ix T) c y) (cd x)) (k : Q (.bool false) s) : wpAny (model prog w) A (compareOp .NotEq (.str z t) (.str y u)) Q E s :=
  ne_same (by rw [hy, r.eq]; exact run_cd ho hc fun d hd => L0_al (h0 d hd)) k
theorem in_marked {d : Addr} {t : Tok} (_ : LMark T x) (hT : StrTab prog w s.heap d (tabD T)) (h : ∀ b, IsM T b → Q (.bool b) { s with toks := s.toks + 1 }) : wpAny (model prog w) A (compareOp .In (.str (PySem.Str.ofString "\"") t) (.ref d)) Q E s :=
  in_strTab hT (by rw [tab_marked]; exact h _ ⟨rfl⟩)
theorem cd_spelt : cd (PySem.Str.ofString "\r\n\t") = [13, 10, 9] := by decide +kernel
theorem in_signtab {d : Addr} {t : Tok} {c : Nat} (_ : LMark T x) (hc : c ∈ cd (PySem.Str.ofString "\r\n\t")) (hT : StrTab prog w s.heap d (tabD T)) (h : Q (.bool ((tb (ix T)).lookup c).isSome) { s with toks := s.toks + 1 }) : wpAny (model prog w) A (compareOp .In (.str ⟨#[c]⟩ t) (.ref d)) Q E s :=
  in_strTab hT (by
    rw [cd_spelt] at hc
    rw [tab_some T c (List.mem_cons_of_mem _ hc)]; exact h)
theorem spelt_end {a b : Addr} {ys : List Value} (_ : LMark T x) (ha : s.heap.IsList a ys.toArray) (hy : StrsAre ys (((cd (PySem.Str.ofString "\r\n\t")).filter fun c => decide (c ∈ cd x) && ((tb (ix T)).lookup c).isSome).map fun c => (⟨#[c]⟩ : PySem.Str)))
    (hb : s.heap.IsList b ([] : List Value).toArray) (hu : A.units + 64 < cLine) (h : ∀ b, IsS T x b → Q (.bool b) s) : wpAny (model prog w) A (compareOp .NotEq (.ref a) (.ref b)) Q E s := by
  refine ne_nil ha hy (fun c hc => ?_) hb hu ?_
  · have := (List.mem_filter.mp hc).1
    rw [cd_spelt] at this
    exact (by decide : ∀ c ∈ [13, 10, 9], c ∈ al) c this
  · have e : (!decide ((cd (PySem.Str.ofString "\r\n\t")).filter (fun c => decide (c ∈ cd x) && ((tb (ix T)).lookup c).isSome) = [])) = spelt (ix T) (cd x) := by
      rw [cd_spelt]
      unfold spelt
      rw [Bool.eq_iff_iff]
      simp only [Bool.not_eq_true', decide_eq_false_iff_not, List.filter_eq_nil_iff, List.any_eq_true, List.contains_eq_mem, Classical.not_forall]
      constructor
      · rintro ⟨c, hc, hp⟩; exact ⟨c, hc, by simpa using hp⟩
      · rintro ⟨c, hc, hp⟩; exact ⟨c, hc, by simpa using hp⟩
    rw [e]; exact h _ ⟨rfl⟩
theorem strs6 {y1 y2 y3 y4 y5 y6 : PySem.Str} {t1 t2 t3 t4 t5 t6 : Tok} (r1 : IsRun T x "RXQ" y1) (r2 : IsRun T x "XRQ" y2) (r3 : IsRun T x "RQX" y3) (r4 : IsRun T x "QRX" y4) (r5 : IsRun T x "XQR" y5) (r6 : IsRun T x "QXR" y6) : StrsAre [.str y1 t1, .str y2 t2, .str y3 t3, .str y4 t4, .str y5 t5, .str y6 t6] (runs T x) := by
  rw [r1.eq, r2.eq, r3.eq, r4.eq, r5.eq, r6.eq]
  exact .cons _ _ (.cons _ _ (.cons _ _ (.cons _ _ (.cons _ _ (.cons _ _ .nil)))))
theorem mem_runs {o : String} {y : PySem.Str} (r : IsRun T x o y) (h : o ∈ ["RXQ", "XRQ", "RQX", "QRX", "XQR", "QXR"]) : y ∈ runs T x := by
  rw [r.eq]
  exact List.mem_map_of_mem (f := fun o => runF T o x) h
theorem index_runs {l : Addr} {y1 y2 y3 y4 y5 y6 y : PySem.Str} {t1 t2 t3 t4 t5 t6 t : Tok} {o : String} (_ : LMark T x) (hl : s.heap.IsList l [.str y1 t1, .str y2 t2, .str y3 t3, .str y4 t4, .str y5 t5, .str y6 t6].toArray) (r : IsRun T x o y) (h0 : o ∈ ["RXQ", "XRQ", "RQX", "QRX", "XQR", "QXR"]) (r1 : IsRun T x "RXQ" y1) (r2 : IsRun T x "XRQ" y2) (r3 : IsRun T x "RQX" y3) (r4 : IsRun T x "QRX" y4) (r5 : IsRun T x "XQR" y5) (r6 : IsRun T x "QXR" y6)
    (h : ∀ n u tk, IsIdx T x o n → Q (.int n u) { s with toks := tk }) : wpAny (model prog w) A (call (.builtin "list.index") [.ref l, .str y t]) Q E s :=
  index_strs hl (strs6 r1 r2 r3 r4 r5 r6) (mem_runs r h0) (by show 6 ≤ 1000; decide) (h _ _ _ ⟨by rw [r.eq]; rfl⟩)
theorem law_eq {a b : Addr} {n1 n2 n3 n4 n5 n6 m2 m3 m5 m6 : Int} {t1 t2 t3 t4 t5 t6 u1 u2 u3 u4 u5 u6 : Tok} (_ : LMark T x) (h0 : ∀ c ∈ cd x, c ∈ L0)
    (ha : s.heap.IsList a [.int n1 t1, .int n2 t2, .int n3 t3, .int n4 t4, .int n5 t5, .int n6 t6].toArray) (hb : s.heap.IsList b [.int 0 u1, .int m2 u2, .int m3 u3, .int 3 u4, .int m5 u5, .int m6 u6].toArray) (i1 : IsIdx T x "RXQ" n1) (i2 : IsIdx T x "XRQ" n2) (i3 : IsIdx T x "RQX" n3) (i4 : IsIdx T x "QRX" n4) (i5 : IsIdx T x "XQR" n5) (i6 : IsIdx T x "QXR" n6) (j2 : Is1 T x m2) (j3 : Is2 T m3) (j5 : Is4 T x m5) (j6 : Is5 T x m6) (hu : A.units + 64 < cLine) (h : Q (.bool true) s) :
    wpAny (model prog w) A (compareOp .Eq (.ref a) (.ref b)) Q E s := by
  refine ke_eq_ints (ns := [n1, n2, n3, n4, n5, n6]) (ms := [0, m2, m3, 3, m5, m6]) ha hb (by repeat constructor) (by repeat constructor) hu ?_
  rw [i1.eq, i2.eq, i3.eq, i4.eq, i5.eq, i6.eq, j2.eq, j3.eq, j5.eq, j6.eq, law_ints h0, decide_eq_true rfl]
  exact h
open LCg LCt
theorem rest_spelt (_ : LMark T x) {e1 e2 : PySem.Expr} {y : PySem.Str} {px p0 : Pos} {scope : Scope} {cl : List (PySem.Str × Addr)} {Fin : List Value → List (Addr × Obj) → Prop} {news : List (Addr × Obj)}
    (turn : ∀ c t I oI C oC D m₂ ys h tk (E' : Value → Shared → Prop), c ∈ cd (PySem.Str.ofString "\r\n\t") → NsObj oC m₂ → m₂ y = some (.str ⟨#[c]⟩ t) → Fr h₀ L h m → News h₀ L h ((I, oI) :: (C, oC) :: (D, lst ys) :: news) → Off3 I C D news → ((@Ne Nat I C) ∧ (@Ne Nat I D) ∧ (@Ne Nat C D)) →
      wpAny (model prog w) A (isTrue (.BoolOp .And [e1, e2] p0) (compEnvC scope cl C env) (eval (.BoolOp .And [e1, e2] p0) (compEnvC scope cl C env))) (TestEnd h₀ L m { s with heap := h, toks := tk } ((I, oI) :: (C, oC) :: (D, lst ys) :: news) (decide (c ∈ cd x) && ((tb (ix T)).lookup c).isSome)) E' { s with heap := h, toks := tk })
    (elts : ∀ c t I oI C oC D m₂ ys h tk (E' : Value → Shared → Prop), NsObj oC m₂ → m₂ y = some (.str ⟨#[c]⟩ t) → Fr h₀ L h m → News h₀ L h ((I, oI) :: (C, oC) :: (D, lst ys) :: news) → Off3 I C D news →
      wpAny (model prog w) A (eval (.Name y px) (compEnvC scope cl C env)) (CompEnd h₀ L m { s with heap := h, toks := tk } I oI C oC D (lst ys) (fun _ => True) (fun y news' => KCtEl news ⟨#[c]⟩ y news')) E' { s with heap := h, toks := tk })
    (fin : ∀ ys, StrsAre ys (((cd (PySem.Str.ofString "\r\n\t")).filter fun c => decide (c ∈ cd x) && ((tb (ix T)).lookup c).isSome).map fun c => (⟨#[c]⟩ : PySem.Str)) → Fin ys news) :
    CompRestT prog w A h₀ L m env (.BoolOp .And [e1, e2] p0) (.Name y px) y scope cl s (fun _ => True) (SignAt (PySem.Str.ofString "\r\n\t")) Fin (PySem.Str.ofString "\r\n\t").cps.size 0 [] news :=
  rest_strT (fun c => decide (c ∈ cd x) && ((tb (ix T)).lookup c).isSome) turn elts fin
theorem rest_safe {a : PySem.Expr} {ops : List CmpOp} {l : List PySem.Expr} {y : PySem.Str} {px p0 : Pos} {scope : Scope} {cl : List (PySem.Str × Addr)} {Fin : List Value → List (Addr × Obj) → Prop} {news : List (Addr × Obj)}
    (turn : ∀ c t I oI C oC D m₂ ys h tk (E' : Value → Shared → Prop), c ∈ cd x → NsObj oC m₂ → m₂ y = some (.str ⟨#[c]⟩ t) → Fr h₀ L h m → News h₀ L h ((I, oI) :: (C, oC) :: (D, lst ys) :: news) → Off3 I C D news → ((@Ne Nat I C) ∧ (@Ne Nat I D) ∧ (@Ne Nat C D)) →
      wpAny (model prog w) A (isTrue (.Compare a ops l p0) (compEnvC scope cl C env) (eval (.Compare a ops l p0) (compEnvC scope cl C env))) (TestEnd h₀ L m { s with heap := h, toks := tk } ((I, oI) :: (C, oC) :: (D, lst ys) :: news) (!decide (c ∈ cd (PySem.Str.ofString "a=")))) E' { s with heap := h, toks := tk })
    (elts : ∀ c t I oI C oC D m₂ ys h tk (E' : Value → Shared → Prop), NsObj oC m₂ → m₂ y = some (.str ⟨#[c]⟩ t) → Fr h₀ L h m → News h₀ L h ((I, oI) :: (C, oC) :: (D, lst ys) :: news) → Off3 I C D news →
      wpAny (model prog w) A (eval (.Name y px) (compEnvC scope cl C env)) (CompEnd h₀ L m { s with heap := h, toks := tk } I oI C oC D (lst ys) (fun _ => True) (fun y news' => KCtEl news ⟨#[c]⟩ y news')) E' { s with heap := h, toks := tk })
    (fin : ∀ ys, StrsAre ys (((cd x).filter fun c => !decide (c ∈ cd (PySem.Str.ofString "a="))).map fun c => (⟨#[c]⟩ : PySem.Str)) → Fin ys news) :
    CompRestT prog w A h₀ L m env (.Compare a ops l p0) (.Name y px) y scope cl s (fun _ => True) (SignAt x) Fin x.cps.size 0 [] news :=
  rest_strT (fun c => !decide (c ∈ cd (PySem.Str.ofString "a="))) turn elts fin
end
theorem good_text {x : PySem.Str} (hl : x.length ≤ 10) (h : ∀ c ∈ cd x, c ∈ L0) : Good 11 x := ⟨by omega, fun c hc => L0_al (h c hc)⟩
theorem size_text {x : PySem.Str} (h : Good 11 x) : x.length ≤ sizeLine := by
  have := h.len
  rw [sizeLine_eq]
  omega
theorem lmark {T : Int} {x : PySem.Str} {kvs : List (PySem.Str × Value)} (_ : FlatPairs PyData.str kvs (tabD T)) (_ : Good 11 x) : LMark T x := LMark.mk
theorem use_run {dn : Nat} {prog : Program} {w : World} {K : Frag} {p : Program} {loose : List PySem.Str} {mean : ExcName → Option Value} {mg mb : PySem.Str → Option Value} {f : Addr} {news : List (Addr × Obj)} {pre : Prop} {vs : List Value} {T : Int} {x : PySem.Str} {o : String}
    (C : Cl dn prog w K p loose mean mg mb f news pre vs (fun t => .str (runF T o x) t)) {dp un : Nat} {gd : Option (List Code)} {cn : PySem.Str} {cs : Scope} {a : Addr} {ccd : Value} {cl : List (PySem.Str × Addr)} {outer : List Env} {A₀ : Around} {base h₀ : Heap} {L : Addr} {m : PySem.Str → Option Value} {s : Shared} {Q E : Value → Shared → Prop}
    (B : Below A₀ base outer h₀) (F : Fr h₀ L s.heap m) (X : K.In h₀) (N : News h₀ L s.heap news) (T' : Top p loose mean mg mb h₀) (hk : cs.kind = .function) (hp : pre) (hd : dp + dn < recursionLimit) (hu : un + 8 * dn < cLine)
    (h : ∀ y t h' tk', IsRun T x o y → Fr h₀ L h' m → News h₀ L h' news → Q (.str y t) { s with heap := h', toks := tk' }) : wpAny (model prog w) (ktrTop dp un gd cn cs L a ccd cl outer) (call (.ref f) vs) Q E s :=
  use_claim C B F X N T' hk hp hd hu fun t h' tk' => h _ t h' tk' ⟨rfl⟩
end Mine
end

section
/-! part: Law -/
open PySem PySem.W PyProof.Rows PySem.Calls PyProof.V PySem.Spec
set_option maxRecDepth 100000
set_option maxHeartbeats 8000000
namespace Mine

local macro_rules | `(tactic| k_tabat) => `(tactic| first | exact tab_news (by k_asm) (by k_mem) (by assumption) (by assumption) | exact TabAt.keep (by assumption) (Fr.keep (by k_asm)))
local macro_rules | `(tactic| k_ne) => `(tactic| (refine neN ?_; (try dsimp only); first | with_reducible assumption | exact Ne.symm (by with_reducible assumption)))

theorem words_Law1 : True := by
  k_with_none
  (k_with "call ref" => (k_here; (with_reducible show wpAny _ _ (call (Value.ref _) [Value.ref _]) _ _ _); k_dflt ((refine' text_claim _ _ _ _ _ _ _ _ _ _ _ _ _ _ _ _ _ _ _ _ _ _ _ _ _ _ _  ?uX ?uB ?uF ?uN ?uT ?uk ?ul ?ui ?un ?ud ?uu ?_; (case uX => k_asm); (case uB => k_asm); (case uF => k_asm); (case uN => k_asm); (case uT => k_asm); (case uk => first | exact rfl | assumption); (case ul => assumption); (case ui => assumption); (case un => omega); (case ud => ktr_room); (case uu => ktr_units)); (intro x' t' h' tk' hx' h0' F' N'; have hG' := good_text hx' h0'))))
  (k_with "call ref" => (k_here; (with_reducible show wpAny _ _ (call (Value.ref _) [Value.int _ _]) _ _ _); k_dflt ((refine' table_claim _ _ _ _ _ _ _ _ _ _ _ _ _ _ _ _ _ _ _ _ _ _ _ _ _ _  ?uX ?uB ?uF ?uN ?uT ?uk ?ud ?uu ?_; (case uX => k_asm); (case uB => k_asm); (case uF => k_asm); (case uN => k_asm); (case uT => k_asm); (case uk => first | exact rfl | assumption); (case ud => ktr_room); (case uu => ktr_units)); (intro d' h' tk' o' kvs' F' N' l1 lo' hD' hf'; have hLM' := lmark hf' (by assumption); have hT' : IsTab _ _ _ _ := ⟨kvs', hD', hf'⟩; (try k_lt l1); clear hD' hf'))))
  (k_with "call ref" => (k_here; (with_reducible show wpAny _ _ (call (Value.ref _) [Value.str (PySem.Str.ofString "RXQ") _, Value.int _ _, Value.str _ _]) _ _ _); k_dflt ((first | refine' use_run (runRXQ_claim _ _ _ _ _ _ _ _ _ _ _ _ ) ?uB ?uF ?uX ?uN ?uT ?uk ?up ?ud ?uu (fun y' t' h' tk' hy' F' N' => ?_)); (case uB => k_asm); (case uF => k_asm); (case uX => k_asm); (case uN => k_asm); (case uT => k_asm); (case uk => first | exact rfl | assumption); (case up => assumption); (case ud => ktr_room); (case uu => ktr_units))))
  (k_with "call ref" => (k_here; (with_reducible show wpAny _ _ (call (Value.ref _) [Value.str (PySem.Str.ofString "XRQ") _, Value.int _ _, Value.str _ _]) _ _ _); k_dflt ((first | refine' use_run (runXRQ_claim _ _ _ _ _ _ _ _ _ _ _ _ ) ?uB ?uF ?uX ?uN ?uT ?uk ?up ?ud ?uu (fun y' t' h' tk' hy' F' N' => ?_)); (case uB => k_asm); (case uF => k_asm); (case uX => k_asm); (case uN => k_asm); (case uT => k_asm); (case uk => first | exact rfl | assumption); (case up => assumption); (case ud => ktr_room); (case uu => ktr_units))))
  (k_with "call ref" => (k_here; (with_reducible show wpAny _ _ (call (Value.ref _) [Value.str (PySem.Str.ofString "RQX") _, Value.int _ _, Value.str _ _]) _ _ _); k_dflt ((first | refine' use_run (runRQX_claim _ _ _ _ _ _ _ _ _ _ _ _ ) ?uB ?uF ?uX ?uN ?uT ?uk ?up ?ud ?uu (fun y' t' h' tk' hy' F' N' => ?_)); (case uB => k_asm); (case uF => k_asm); (case uX => k_asm); (case uN => k_asm); (case uT => k_asm); (case uk => first | exact rfl | assumption); (case up => assumption); (case ud => ktr_room); (case uu => ktr_units))))
  (k_with "call ref" => (k_here; (with_reducible show wpAny _ _ (call (Value.ref _) [Value.str (PySem.Str.ofString "QRX") _, Value.int _ _, Value.str _ _]) _ _ _); k_dflt ((first | refine' use_run (runQRX_claim _ _ _ _ _ _ _ _ _ _ _ _ ) ?uB ?uF ?uX ?uN ?uT ?uk ?up ?ud ?uu (fun y' t' h' tk' hy' F' N' => ?_)); (case uB => k_asm); (case uF => k_asm); (case uX => k_asm); (case uN => k_asm); (case uT => k_asm); (case uk => first | exact rfl | assumption); (case up => assumption); (case ud => ktr_room); (case uu => ktr_units))))
  (k_with "call ref" => (k_here; (with_reducible show wpAny _ _ (call (Value.ref _) [Value.str (PySem.Str.ofString "XQR") _, Value.int _ _, Value.str _ _]) _ _ _); k_dflt ((first | refine' use_run (runXQR_claim _ _ _ _ _ _ _ _ _ _ _ _ ) ?uB ?uF ?uX ?uN ?uT ?uk ?up ?ud ?uu (fun y' t' h' tk' hy' F' N' => ?_)); (case uB => k_asm); (case uF => k_asm); (case uX => k_asm); (case uN => k_asm); (case uT => k_asm); (case uk => first | exact rfl | assumption); (case up => assumption); (case ud => ktr_room); (case uu => ktr_units))))
  (k_with "call ref" => (k_here; (with_reducible show wpAny _ _ (call (Value.ref _) [Value.str (PySem.Str.ofString "QXR") _, Value.int _ _, Value.str _ _]) _ _ _); k_dflt ((first | refine' use_run (runQXR_claim _ _ _ _ _ _ _ _ _ _ _ _ ) ?uB ?uF ?uX ?uN ?uT ?uk ?up ?ud ?uu (fun y' t' h' tk' hy' F' N' => ?_)); (case uB => k_asm); (case uF => k_asm); (case uX => k_asm); (case uN => k_asm); (case uT => k_asm); (case uk => first | exact rfl | assumption); (case up => assumption); (case ud => ktr_room); (case uu => ktr_units))))
  (k_with "call ref" => (k_here; (with_reducible show wpAny _ _ (call (Value.ref _) [Value.str _ _, Value.ref _, Value.str _ _]) _ _ _); k_dflt ((refine' plain_claim _ _ _ _ _ _ _ _ _ _ _ _ _ _ _ _ _ _ _ _ _ _ _ _ _ _ _ _ _ _  ?uX ?uB ?uF ?uN ?uT ?uk ?ud ?uu ?uG ?uP ?ul ?uA ?_; (case uX => k_asm); (case uB => k_asm); (case uF => k_asm); (case uN => k_asm); (case uT => k_asm); (case uk => first | exact rfl | assumption); (case ud => ktr_room); (case uu => ktr_units); (case uG => assumption); (case uP => decide +kernel); (case ul => decide +kernel); (case uA => k_tabat)); (intro y' t' h' tk' hy' F' N'))))
  (k_with "eval Constant str" => (k_here; (refine const_flat ?_); intro _ _))
  (k_with "eval BoolOp" => (k_here; (fail_if_success (with_reducible rename EMark => hE)); k_dflt (first | (refine' cut_parted ?cM ?cF ?cN (fun hE' => ?_) (fun b' h' tk' hb' F' N' => ?_); (case cM => assumption); (case cF => k_asm); (case cN => k_asm)) | (refine' cut_safe ?cM ?cF ?cN (fun hE' => ?_) (fun b' h' tk' hb' F' N' => ?_); (case cM => assumption); (case cF => k_asm); (case cN => k_asm)))))
  (k_with "eval IfExp" => (k_here; (fail_if_success (with_reducible rename EMark => hE)); k_dflt (first | (refine' cut_alike ?cM ?cF ?cN (fun hE' => ?_) (fun b' h' tk' hb' F' N' => ?_); (case cM => assumption); (case cF => k_asm); (case cN => k_asm)) | (refine' cut_d1 ?cM ?cF ?cN (fun hE' => ?_) (fun n' t' h' tk' hb' F' N' => ?_); (case cM => assumption); (case cF => k_asm); (case cN => k_asm)) | (refine' cut_d2 ?cM ?cF ?cN (fun hE' => ?_) (fun n' t' h' tk' hb' F' N' => ?_); (case cM => assumption); (case cF => k_asm); (case cN => k_asm)) | (refine' cut_d4 ?cM ?cF ?cN (fun hE' => ?_) (fun n' t' h' tk' hb' F' N' => ?_); (case cM => assumption); (case cF => k_asm); (case cN => k_asm)) | (refine' cut_d5 ?cM ?cF ?cN (fun hE' => ?_) (fun n' t' h' tk' hb' F' N' => ?_); (case cM => assumption); (case cF => k_asm); (case cN => k_asm)))))
  (k_with "isTrue BoolOp" => (k_here; (fail_if_success (with_reducible rename EMark => hE)); k_dflt (refine' cutT ?cF ?cN (fun hE' => ?_) (fun h' tk' F' N' => ?_); (case cF => k_asm); (case cN => k_asm))))
  (k_with "ValEnd" => k_dflt (refine' ValEnd.intro ?vE ?vF ?vN; (case vF => k_asm); (case vN => first | k_asm | exact news_tail (by k_asm) | exact news_tail (news_tail (by k_asm)) | exact news_tail (news_tail (news_tail (by k_asm)))); (case vE => (try dsimp only); first | with_reducible exact vp_t (by assumption) (by assumption) | with_reducible exact vp_f (by assumption) (by assumption) | with_reducible exact vp_f' (by assumption) (by assumption) | with_reducible exact vs_t (by assumption) | with_reducible exact vs_u (by assumption) | with_reducible exact vs_g (by assumption) | with_reducible exact vs_f (by assumption) | with_reducible exact vs_f' (by assumption) | with_reducible exact va_t (by assumption) (by assumption) (by assumption) | with_reducible exact va_f (by assumption) (by assumption) (by assumption) | with_reducible exact v1_a (by assumption) (by assumption) | with_reducible exact v1_b (by assumption) (by assumption) | with_reducible exact v1_c (by assumption) (by assumption) (by assumption) (by assumption) | with_reducible exact v2_a (by assumption) (by assumption) | with_reducible exact v2_b (by assumption) (by assumption) | with_reducible exact v4_a (by assumption) (by assumption) | with_reducible exact v4_b (by assumption) (by assumption) | with_reducible exact v5_a (by assumption) (by assumption) | with_reducible exact v5_b (by assumption) (by assumption) (by assumption) (by assumption) | with_reducible exact v5_c (by assumption) (by assumption) (by assumption) (by assumption))))
  (k_with "compareOp In str ref" => (k_here; k_dflt (first | ((with_reducible show wpAny _ _ (compareOp _ (Value.str (PySem.Str.ofString _) _) _) _ _ _); refine in_marked (by assumption) (by k_tabat) (fun b' hb' => ?_)) | (refine in_signtab (by assumption) (by assumption) (by k_tabat) ?_))))
  (k_with "compareOp In str str" => (k_here; first | refine in_sign 39 (by decide +kernel) ?_ | refine in_sign _ rfl ?_))
  (k_with "compareOp NotIn str str" => (k_here; refine notIn_sign _ rfl ?_))
  (k_with "compareOp NotEq str str" => (k_here; first | with_reducible refine ne_empty ?_ | k_dflt (refine' ne_run ?nr ?no ?nc ?n0 ?ny ?_; (case nr => assumption); (case no => decide); (case nc => decide +kernel); (case n0 => assumption); (case ny => assumption))))
  (k_with "compareOp NotEq ref ref" => (k_here; k_dflt (refine' spelt_end ?sM ?sa ?sy ?sb ?su (fun b' hb' => ?_); (case sM => assumption); (case sa => exact News.isList (by k_asm) (by k_mem)); (case sy => assumption); (case sb => exact News.isList (by k_asm) (by k_mem)); (case su => ktr_units))))
  (k_with "compareOp Eq ref ref" => (k_here; k_dflt (first | (refine eq_nil (by exact News.isList (by k_asm) (by k_mem)) (by assumption) (fun c hc => Good.al (by assumption) c (List.mem_filter.mp hc).1) (by exact News.isList (by k_asm) (by k_mem)) (by ktr_units) ?_) | (refine' law_eq ?eM ?e0 ?ea ?eb ?e1 ?e2 ?e3 ?e4 ?e5 ?e6 ?f2 ?f3 ?f5 ?f6 ?eu ?_; (case eM => assumption); (case e0 => assumption); (case ea => exact News.isList (by k_asm) (by k_mem)); (case eb => exact News.isList (by k_asm) (by k_mem)); (case e1 => assumption); (case e2 => assumption); (case e3 => assumption); (case e4 => assumption); (case e5 => assumption); (case e6 => assumption); (case f2 => assumption); (case f3 => assumption); (case f5 => assumption); (case f6 => assumption); (case eu => ktr_units)))))
  (k_with "eval ListComp" => (k_here; lct_look; k_dflt (refine ListComp_ST (_F₀ := by k_asm) (by with_unfolding_all rfl) (by decide) (by rfl) (by decide) (by rfl) ?_)))
  (k_with "SrcST" => (k_here; k_dflt (refine SrcST.intro (by rfl) (by k_asm) (by k_asm) (by first | with_reducible exact size_text (by assumption) | (rw [sizeLine_eq]; decide +kernel)) ?_; intro g'; (first | (refine' rest_spelt ?rM (fun c t I oI C oC D m₂ ys h tk E' hc hC hx F' N' off' ne' => ?_) (fun c t I oI C oC D m₂ ys h tk E' hC hx F' N' off' => ?_) (fun ys hys => ?_); (case rM => assumption)) | (refine' rest_safe (fun c t I oI C oC D m₂ ys h tk E' hc hC hx F' N' off' ne' => ?_) (fun c t I oI C oC D m₂ ys h tk E' hC hx F' N' off' => ?_) (fun ys hys => ?_))); (all_goals (try (simp only [LCg.Off3, and_true] at off'))); (all_goals (try k_fold)))))
  (k_with "FinE" => (k_here; (repeat ((with_reducible rename ((_ ∧ _) ∧ _) => hOff); clear hOff)); (repeat ((with_reducible rename (@Ne Nat _ _ ∧ @Ne Nat _ _ ∧ @Ne Nat _ _) => hOff); clear hOff)); (repeat ((with_reducible rename (@Ne Nat _ _) => hOff); clear hOff)); (unfold LCg.FinE); (intro D' h' tk' F' N' o1'); (try simp only [LCg.Off1, and_true] at o1'); (try simp only [List.nil_append, List.cons_append] at N'); (try dsimp only)))
  (k_with "CompEnd" => ((repeat ((with_reducible rename ((_ ∧ _ ∧ _) ∧ _) => hO); (obtain ⟨⟨_, _, _⟩, _⟩ := hO))); (repeat ((with_reducible rename (@Ne Nat _ _ ∧ @Ne Nat _ _ ∧ @Ne Nat _ _) => hO); (obtain ⟨_, _, _⟩ := hO))); lcg_end))
  (k_with "CompRest" => (k_here; (repeat ((with_reducible rename (@Ne Nat _ _) => hO); clear hO)); with_unfolding_all first | (refine LCg.CompRest.succ ?_; intro v' I' oI' C' oC' D' m' h' tk' E' hv' hC' hx' F' N' off' ne'; (first | lcg_open hv' | (obtain ⟨t9', hv9'⟩ := hv'; subst hv9')); (try simp only [LCg.Off3, and_true] at off')) | refine LCg.CompRest.zero ?_))
  (k_with "KCtEl" => k_dflt (exact kct_el rfl rfl rfl))
  (k_with "TestEnd" => k_dflt (refine' TestEnd.intro ?vE ?vF ?vN; (case vF => k_asm); (case vN => first | k_asm | exact news_tail (by k_asm) | exact news_tail (news_tail (by k_asm)) | exact news_tail (news_tail (news_tail (by k_asm)))); (case vE => first | with_reducible rfl | with_reducible exact tf1 (by assumption) | with_reducible exact tf1 (decide_eq_false (by assumption)) | with_reducible exact tf2 (by assumption) | with_reducible exact tt2 (decide_eq_true (by assumption)) (by assumption) | (dsimp only; first | done | with_reducible exact tf1 (by assumption) | with_reducible exact tf1 (decide_eq_false (by assumption)) | with_reducible exact tf2 (by assumption) | with_reducible exact tt2 (decide_eq_true (by assumption)) (by assumption)))))
  (k_with "call builtin:list.index" => (k_here; k_dflt (refine' index_runs ?iM ?il ?ir ?i0 ?i1 ?i2 ?i3 ?i4 ?i5 ?i6 (fun n' u' tk' hn' => ?_); (case iM => assumption); (case il => exact News.isList (by k_asm) (by k_mem)); (case ir => assumption); (case i0 => decide); (case i1 => assumption); (case i2 => assumption); (case i3 => assumption); (case i4 => assumption); (case i5 => assumption); (case i6 => assumption)); dsimp only))
  trivial
local macro_rules | `(tactic| walk_at $s:str) => `(tactic| k_extra $s)
theorem law_holds : PySem.Challenge.rw_in0207_01.Holds := Mine.hd (by w_strict (k_go0; (all_goals try k_fold); k_steps; done))
end Mine
end

theorem PySem.Challenge.cw_in0207_01_holds : PySem.Challenge.rw_in0207_01.Holds :=
  Mine.law_holds
