import PyProof.Rows.All
import Wide.All
import OpenK.AllK
import Wide.FinOn
import Lean
import PySem.Challenge.RW_mq0463_01
set_option Elab.async false
section
open PySem PySem.W PyProof.Rows
set_option maxRecDepth 100000
set_option maxHeartbeats 8000000
namespace Mine
open_top hd for PySem.Challenge.rw_mq0463_01
end Mine

end
section
open PySem
namespace Mine

theorem shifted_mem : ∀ {l : List (Nat × Nat × Nat)} {c d : Nat}, Unicode.shifted l c = some d → ∃ x ∈ l, x.1 ≤ c ∧ c ≤ x.2.1 ∧ d = x.2.2 + (c - x.1)
  | [], _, _, h => by simp [Unicode.shifted] at h
  | (a, b, t) :: rest, c, d, h => by
    unfold Unicode.shifted at h
    split at h
    · cases h
    · split at h
      · rename_i h1 h2
        refine ⟨(a, b, t), .head _, by simpa using h1, h2, by simpa using h.symm⟩
      · obtain ⟨x, hx, r⟩ := shifted_mem h
        exact ⟨x, .tail _ hx, r⟩

/-- the signs that the pattern asks of a lowered sign -/
def wanted (d : Nat) : Bool := (48 ≤ d && d ≤ 57) || (97 ≤ d && d ≤ 102) || d == 116 || d == 120

def rowFree (x : Nat × Nat × Nat) : Bool :=
  (x.1 == 65 && x.2.1 == 90 && x.2.2 == 97) || decide (x.2.2 > 120) || (decide (x.2.2 > 102) && decide (x.2.2 + (x.2.1 - x.1) < 116))

theorem rows_free : UnicodeData.oneLower.all rowFree = true := by decide +kernel
theorem several_free : UnicodeData.severalLower = [(0x130, [0x69, 0x307])] := by decide +kernel

theorem lower_back {c : Nat} (h : wanted (Sre.lowerUni c) = true) : c = Sre.lowerUni c ∨ (65 ≤ c ∧ c ≤ 90 ∧ Sre.lowerUni c = c + 32) := by
  unfold Sre.lowerUni Unicode.simpleLower Unicode.lowerOf Unicode.image at *
  rw [several_free] at *
  by_cases hc : c = 0x130
  · subst hc; simp [wanted] at h
  · have hb : (c == 0x130) = false := by simpa using hc
    simp only [List.lookup, hb] at h ⊢
    cases hs : Unicode.shifted UnicodeData.oneLower c with
    | none => left; simp
    | some d =>
      rw [hs] at h
      obtain ⟨x, hx, h1, h2, h3⟩ := shifted_mem hs
      have hf := List.all_eq_true.mp rows_free x hx
      simp only [Option.getD_some, List.headD_cons] at h ⊢
      simp only [rowFree, wanted, Bool.or_eq_true, Bool.and_eq_true, beq_iff_eq, decide_eq_true_eq] at hf h
      right
      omega

theorem lower_up {c : Nat} (h : 65 ≤ c ∧ c ≤ 90) : Sre.lowerUni c = c + 32 := by
  have : ∀ c, 65 ≤ c → c ≤ 90 → Sre.lowerUni c = c + 32 := by
    intro c h1 h2
    have : (List.range 91).all (fun c => decide (c < 65) || Sre.lowerUni c == c + 32) = true := by decide +kernel
    have := List.all_eq_true.mp this c (by simp; omega)
    simp at this
    omega
  exact this c h.1 h.2
theorem lower_low {c : Nat} (h : wanted c = true) : Sre.lowerUni c = c := by
  have : (List.range 121).all (fun c => !wanted c || Sre.lowerUni c == c) = true := by decide +kernel
  have hc : c < 121 := by simp [wanted] at h; omega
  have := List.all_eq_true.mp this c (by simp; omega)
  simp [h] at this
  exact this

/-- a lowered sign is a wanted d: the sign is d, or its great letter -/
theorem lower_eq {c d : Nat} (hd : wanted d = true) : (Sre.lowerUni c = d) ↔ (c = d ∨ (97 ≤ d ∧ c + 32 = d)) := by
  constructor
  · intro h
    rcases lower_back (c := c) (by rw [h]; exact hd) with h1 | ⟨h1, h2, h3⟩
    · left; omega
    · right; omega
  · rintro (h | ⟨h1, h2⟩)
    · subst h; exact lower_low hd
    · have : wanted d = true := hd
      rw [lower_up ⟨by omega, by simp [wanted] at hd; omega⟩]; exact h2

def isHex (c : Nat) : Bool := (48 ≤ c && c ≤ 57) || (97 ≤ c && c ≤ 102) || (65 ≤ c && c ≤ 70)

theorem lower_hex (c : Nat) : ((48 ≤ Sre.lowerUni c && Sre.lowerUni c ≤ 57) || (97 ≤ Sre.lowerUni c && Sre.lowerUni c ≤ 102)) = isHex c := by
  rw [Bool.eq_iff_iff]
  constructor
  · intro h
    have hw : wanted (Sre.lowerUni c) = true := by simp [wanted] at h ⊢; omega
    rcases lower_back hw with h1 | ⟨h1, h2, h3⟩
    · rw [← h1] at h; simp [isHex] at h ⊢; omega
    · rw [h3] at h; simp [isHex] at h ⊢; omega
  · intro h
    by_cases hu : 65 ≤ c ∧ c ≤ 70
    · rw [lower_up ⟨hu.1, by omega⟩]; simp; omega
    · have hw : wanted c = true := by simp [isHex, wanted] at h ⊢; omega
      rw [lower_low hw]; simp [isHex] at h ⊢; omega
end Mine

end
section
open PySem PySem.Sre
namespace Mine

def rcode : Array Nat := #[14, 8, 1, 13, 4294967295, 1, 1, 32, 0, 16, 32, 40, 97, 40, 116, 16, 32, 16, 48, 40, 120, 24, 13, 6, 16, 39, 8, 22, 48, 57, 22, 97, 102, 0, 1, 17, 0, 24, 6, 1, 4294967295, 16, 62, 1, 17, 1, 6, 5, 1]

def St (t : Array Nat) (st pc pos hd : Nat) (om : Bool) (mk : Array (Option Nat)) (lm li : Int) (fr : List Sre.Frame) (wt : Nat) (an : Option Bool) (sn : Seen) : M :=
  { code := rcode, text := t, lim := t.size, start := st, lastStart := t.size, pc := pc, pos := pos, handed := hd, outermost := om, marks := mk, lastmark := lm, lastindex := li, frames := fr, weight := wt, answer := an, seen := sn }

section
variable {t : Array Nat} {st pos hd : Nat} {om : Bool} {mk : Array (Option Nat)} {lm li : Int} {fr : List Sre.Frame} {wt : Nat} {sn : Seen}

theorem one_9 : (St t st 9 pos hd om mk lm li fr wt none sn).step =
    if t.size ≤ pos then St t st 9 pos hd om mk lm li fr wt (some false) (sn.add 16)
    else if t.getD pos 0 = 32 then St t st 11 (pos + 1) hd om mk lm li fr wt none (sn.add 16)
    else St t st 9 pos hd om mk lm li fr wt (some false) (sn.add 16) := by
  show (if pos ≥ t.size then M.say _ false else match (Except.ok (t.getD pos 0 == 32, sn.add 16) : Except String (Bool × Seen)) with
    | .error why => M.stick _ why
    | .ok (false, seen) => _
    | .ok (true, seen) => _) = _
  by_cases h : t.size ≤ pos
  · rw [if_pos h, if_pos h]; rfl
  · rw [if_neg h, if_neg h]
    by_cases h2 : t.getD pos 0 = 32
    · rw [if_pos h2, h2]; rfl
    · rw [if_neg h2]
      have : (t.getD pos 0 == 32) = false := by simpa using h2
      rw [this]; rfl

theorem one_11 : (St t st 11 pos hd om mk lm li fr wt none sn).step =
    if t.size ≤ pos then St t st 11 pos hd om mk lm li fr wt (some false) (sn.add 40)
    else if lowerUni (t.getD pos 0) = 97 then St t st 13 (pos + 1) hd om mk lm li fr wt none (sn.add 40)
    else St t st 11 pos hd om mk lm li fr wt (some false) (sn.add 40) := by
  show (if pos ≥ t.size then M.say _ false else match (Except.ok (lowerUni (t.getD pos 0) == 97, sn.add 40) : Except String (Bool × Seen)) with
    | .error why => M.stick _ why
    | .ok (false, seen) => _
    | .ok (true, seen) => _) = _
  by_cases h : t.size ≤ pos
  · rw [if_pos h, if_pos h]; rfl
  · rw [if_neg h, if_neg h]
    by_cases h2 : lowerUni (t.getD pos 0) = 97
    · rw [if_pos h2, h2]; rfl
    · rw [if_neg h2]
      have : (lowerUni (t.getD pos 0) == 97) = false := by simpa using h2
      rw [this]; rfl

theorem one_13 : (St t st 13 pos hd om mk lm li fr wt none sn).step =
    if t.size ≤ pos then St t st 13 pos hd om mk lm li fr wt (some false) (sn.add 40)
    else if lowerUni (t.getD pos 0) = 116 then St t st 15 (pos + 1) hd om mk lm li fr wt none (sn.add 40)
    else St t st 13 pos hd om mk lm li fr wt (some false) (sn.add 40) := by
  show (if pos ≥ t.size then M.say _ false else match (Except.ok (lowerUni (t.getD pos 0) == 116, sn.add 40) : Except String (Bool × Seen)) with
    | .error why => M.stick _ why
    | .ok (false, seen) => _
    | .ok (true, seen) => _) = _
  by_cases h : t.size ≤ pos
  · rw [if_pos h, if_pos h]; rfl
  · rw [if_neg h, if_neg h]
    by_cases h2 : lowerUni (t.getD pos 0) = 116
    · rw [if_pos h2, h2]; rfl
    · rw [if_neg h2]
      have : (lowerUni (t.getD pos 0) == 116) = false := by simpa using h2
      rw [this]; rfl

theorem one_15 : (St t st 15 pos hd om mk lm li fr wt none sn).step =
    if t.size ≤ pos then St t st 15 pos hd om mk lm li fr wt (some false) (sn.add 16)
    else if t.getD pos 0 = 32 then St t st 17 (pos + 1) hd om mk lm li fr wt none (sn.add 16)
    else St t st 15 pos hd om mk lm li fr wt (some false) (sn.add 16) := by
  show (if pos ≥ t.size then M.say _ false else match (Except.ok (t.getD pos 0 == 32, sn.add 16) : Except String (Bool × Seen)) with
    | .error why => M.stick _ why
    | .ok (false, seen) => _
    | .ok (true, seen) => _) = _
  by_cases h : t.size ≤ pos
  · rw [if_pos h, if_pos h]; rfl
  · rw [if_neg h, if_neg h]
    by_cases h2 : t.getD pos 0 = 32
    · rw [if_pos h2, h2]; rfl
    · rw [if_neg h2]
      have : (t.getD pos 0 == 32) = false := by simpa using h2
      rw [this]; rfl

theorem one_17 : (St t st 17 pos hd om mk lm li fr wt none sn).step =
    if t.size ≤ pos then St t st 17 pos hd om mk lm li fr wt (some false) (sn.add 16)
    else if t.getD pos 0 = 48 then St t st 19 (pos + 1) hd om mk lm li fr wt none (sn.add 16)
    else St t st 17 pos hd om mk lm li fr wt (some false) (sn.add 16) := by
  show (if pos ≥ t.size then M.say _ false else match (Except.ok (t.getD pos 0 == 48, sn.add 16) : Except String (Bool × Seen)) with
    | .error why => M.stick _ why
    | .ok (false, seen) => _
    | .ok (true, seen) => _) = _
  by_cases h : t.size ≤ pos
  · rw [if_pos h, if_pos h]; rfl
  · rw [if_neg h, if_neg h]
    by_cases h2 : t.getD pos 0 = 48
    · rw [if_pos h2, h2]; rfl
    · rw [if_neg h2]
      have : (t.getD pos 0 == 48) = false := by simpa using h2
      rw [this]; rfl

theorem one_19 : (St t st 19 pos hd om mk lm li fr wt none sn).step =
    if t.size ≤ pos then St t st 19 pos hd om mk lm li fr wt (some false) (sn.add 40)
    else if lowerUni (t.getD pos 0) = 120 then St t st 21 (pos + 1) hd om mk lm li fr wt none (sn.add 40)
    else St t st 19 pos hd om mk lm li fr wt (some false) (sn.add 40) := by
  show (if pos ≥ t.size then M.say _ false else match (Except.ok (lowerUni (t.getD pos 0) == 120, sn.add 40) : Except String (Bool × Seen)) with
    | .error why => M.stick _ why
    | .ok (false, seen) => _
    | .ok (true, seen) => _) = _
  by_cases h : t.size ≤ pos
  · rw [if_pos h, if_pos h]; rfl
  · rw [if_neg h, if_neg h]
    by_cases h2 : lowerUni (t.getD pos 0) = 120
    · rw [if_pos h2, h2]; rfl
    · rw [if_neg h2]
      have : (lowerUni (t.getD pos 0) == 120) = false := by simpa using h2
      rw [this]; rfl

end
end Mine

end
section
open PySem PySem.Sre
namespace Mine

noncomputable def iter : Nat → M → M
  | 0, m => m
  | n + 1, m => iter n m.step
theorem iter_add : ∀ (a b : Nat) (m : M), iter (a + b) m = iter b (iter a m)
  | 0, b, m => by rw [Nat.zero_add]; rfl
  | a + 1, b, m => by rw [Nat.add_right_comm]; exact iter_add a b m.step
theorem step_fix {m : M} (h : m.outcome.isSome = true) : m.step = m := by unfold M.step; rw [if_pos h]
theorem iter_fix {m : M} (h : m.outcome.isSome = true) : ∀ n, iter n m = m
  | 0 => rfl
  | n + 1 => by show iter n m.step = m; rw [step_fix h]; exact iter_fix h n
theorem runFor_iter : ∀ (n : Nat) (m : M), M.runFor n m = iter n m
  | 0, _ => rfl
  | n + 1, m => by
    unfold M.runFor
    split
    · rename_i h; exact (iter_fix h (n + 1)).symm
    · exact runFor_iter n m.step

def Rch (N : Nat) (m : M) (P : M → Prop) : Prop := ∃ k, k ≤ N ∧ P (iter k m)
theorem Rch.here {N : Nat} {m : M} {P : M → Prop} (h : P m) : Rch N m P := ⟨0, Nat.zero_le _, h⟩
theorem Rch.step {N : Nat} {m : M} {P : M → Prop} (h : Rch N m.step P) : Rch (N + 1) m P := by
  obtain ⟨k, hk, hp⟩ := h
  exact ⟨k + 1, by omega, hp⟩
theorem Rch.stepTo {N : Nat} {m m' : M} {P : M → Prop} (e : m.step = m') (h : Rch N m' P) : Rch (N + 1) m P := by
  subst e; exact h.step
theorem Rch.trans {N N' : Nat} {m : M} {P Q : M → Prop} (h : Rch N m P) (h' : ∀ m', P m' → Rch N' m' Q) : Rch (N + N') m Q := by
  obtain ⟨k, hk, hp⟩ := h
  obtain ⟨j, hj, hq⟩ := h' _ hp
  exact ⟨k + j, by omega, by rw [iter_add]; exact hq⟩
theorem Rch.mono {N N' : Nat} {m : M} {P : M → Prop} (h : Rch N m P) (hn : N ≤ N') : Rch N' m P := by
  obtain ⟨k, hk, hp⟩ := h
  exact ⟨k, by omega, hp⟩
theorem Rch.imp {N : Nat} {m : M} {P Q : M → Prop} (h : Rch N m P) (hq : ∀ m, P m → Q m) : Rch N m Q := by
  obtain ⟨k, hk, hp⟩ := h
  exact ⟨k, hk, hq _ hp⟩

/-- how many signs from p on, at most n, are taken -/
noncomputable def runLen (q : Nat → Bool) (t : Array Nat) : (n p : Nat) → Nat
  | 0, _ => 0
  | n + 1, p => if q (t.getD p 0) = true then runLen q t n (p + 1) + 1 else 0

theorem acc_25 (c : Nat) (sn : Seen) : ∃ sn', accepts rcode 25 c sn = .ok (isHex c, sn') := by
  rw [← lower_hex c]
  show ∃ sn', inSet rcode (lowerUni c) 49 27 true sn = _
  show ∃ sn', (if (decide (48 ≤ lowerUni c) && decide (lowerUni c ≤ 57)) = true then Except.ok (true, sn.add 22) else
    (if (decide (97 ≤ lowerUni c) && decide (lowerUni c ≤ 102)) = true then Except.ok (true, (sn.add 22).add 22) else Except.ok (!true, ((sn.add 22).add 22).add 0))) = _
  by_cases h1 : (decide (48 ≤ lowerUni c) && decide (lowerUni c ≤ 57)) = true
  · exact ⟨_, by rw [if_pos h1, h1]; rfl⟩
  · rw [if_neg h1]
    simp only [Bool.not_eq_true] at h1
    by_cases h2 : (decide (97 ≤ lowerUni c) && decide (lowerUni c ≤ 102)) = true
    · exact ⟨_, by rw [if_pos h2, h1, h2]; rfl⟩
    · rw [if_neg h2]
      simp only [Bool.not_eq_true] at h2
      exact ⟨_, by rw [h1, h2]; rfl⟩
theorem acc_41 (c : Nat) (sn : Seen) : accepts rcode 41 c sn = .ok (c == 62, sn) := rfl

theorem run_25 (t : Array Nat) : ∀ (n p f : Nat) (sn : Seen), ∃ sn', run rcode t 25 n p f sn = .ok (f + runLen isHex t n p, sn')
  | 0, p, f, sn => ⟨sn, rfl⟩
  | n + 1, p, f, sn => by
    obtain ⟨sn1, h1⟩ := acc_25 (t.getD p 0) sn
    unfold Sre.run
    rw [h1]
    show ∃ sn', (if isHex (t.getD p 0) = true then run rcode t 25 n (p + 1) (f + 1) sn1 else pure (f, sn1)) = _
    by_cases h : isHex (t.getD p 0) = true
    · obtain ⟨sn2, h2⟩ := run_25 t n (p + 1) (f + 1) sn1
      refine ⟨sn2, ?_⟩
      rw [if_pos h, h2]
      simp only [runLen, h, if_true]
      congr 2; omega
    · refine ⟨sn1, ?_⟩
      rw [if_neg h]
      simp only [runLen, h]
      rfl
theorem run_41 (t : Array Nat) : ∀ (n p f : Nat) (sn : Seen), run rcode t 41 n p f sn = .ok (f + runLen (· == 62) t n p, sn)
  | 0, p, f, sn => rfl
  | n + 1, p, f, sn => by
    unfold Sre.run
    rw [acc_41]
    show (if (t.getD p 0 == 62) = true then run rcode t 41 n (p + 1) (f + 1) sn else pure (f, sn)) = _
    by_cases h : (t.getD p 0 == 62) = true
    · rw [if_pos h, run_41 t n (p + 1) (f + 1) sn]
      simp only [runLen, h, if_true]
      congr 2; omega
    · rw [if_neg h]
      simp only [runLen, h]
      rfl

def G21 (n pos : Nat) (om : Bool) (lm li : Int) : Sre.Frame := { wait := .giveBack, pc := 21, pos := pos, outermost := om, count := (n : Int), kept := { lastmark := lm, lastindex := li, whole := false, marks := #[] } }
def G37 (n pos : Nat) (om : Bool) (lm li : Int) : Sre.Frame := { wait := .giveBack, pc := 37, pos := pos, outermost := om, count := (n : Int), kept := { lastmark := lm, lastindex := li, whole := false, marks := #[] } }
def NS (pos : Nat) (om : Bool) : Sre.Frame := { wait := .nextStart, pc := 9, pos := pos, outermost := om }

section
variable {t : Array Nat} {st pos hd : Nat} {om : Bool} {mk : Array (Option Nat)} {lm li : Int} {fr : List Sre.Frame} {wt : Nat} {sn : Seen}

theorem runLen_le (q : Nat → Bool) : ∀ (n p : Nat), runLen q t n p ≤ n
  | 0, _ => Nat.le_refl _
  | n + 1, p => by
    unfold runLen
    split
    · have := runLen_le q n (p + 1); omega
    · omega

theorem rep_21 (hp : pos ≤ t.size) (hw : wt ≤ 1000) : ∃ sn', (St t st 21 pos hd om mk lm li fr wt none sn).step =
    if runLen isHex t (min 16 (t.size - pos)) pos < 6 then St t st 21 pos hd om mk lm li fr wt (some false) sn'
    else St t st 35 (pos + runLen isHex t (min 16 (t.size - pos)) pos) (pos + runLen isHex t (min 16 (t.size - pos)) pos) om mk lm li
      (G21 (runLen isHex t (min 16 (t.size - pos)) pos) (pos + runLen isHex t (min 16 (t.size - pos)) pos) om lm li :: fr) (wt + 1) none sn' := by
  have hroom : ((t.size : Int) - (pos : Int)).toNat = t.size - pos := by omega
  obtain ⟨sn', hr⟩ := run_25 t (min 16 (t.size - pos)) pos 0 ((sn.add 24).add 39)
  rw [Nat.zero_add] at hr
  by_cases h6 : ((6 : Nat) : Int) > (t.size : Int) - (pos : Int)
  · refine ⟨sn.add 24, ?_⟩
    have := runLen_le (t := t) isHex (min 16 (t.size - pos)) pos
    rw [if_pos (by omega)]
    show (if ((6 : Nat) : Int) > (t.size : Int) - (pos : Int) then _ else _) = _
    rw [if_pos h6]; rfl
  · refine ⟨sn', ?_⟩
    show (if ((6 : Nat) : Int) > (t.size : Int) - (pos : Int) then _ else match run rcode t 25 (min 16 ((t.size : Int) - (pos : Int)).toNat) pos 0 ((sn.add 24).add 39) with
      | .error why => _
      | .ok (n, seen) => _) = _
    rw [if_neg h6, hroom, hr]
    show (if runLen isHex t (min 16 (t.size - pos)) pos < 6 then _ else _) = _
    by_cases hn : runLen isHex t (min 16 (t.size - pos)) pos < 6
    · rw [if_pos hn, if_pos hn]; rfl
    · rw [if_neg hn, if_neg hn]
      show (if wt + 1 + 0 > 16777216 then _ else _) = _
      rw [if_neg (by omega)]; rfl

theorem rep_37 (hp : pos ≤ t.size) (hw : wt ≤ 1000) (hs : t.size ≤ 4294967295) : ∃ sn', (St t st 37 pos hd om mk lm li fr wt none sn).step =
    if runLen (· == 62) t (t.size - pos) pos < 1 then St t st 37 pos hd om mk lm li fr wt (some false) sn'
    else St t st 44 (pos + runLen (· == 62) t (t.size - pos) pos) (pos + runLen (· == 62) t (t.size - pos) pos) om mk lm li
      (G37 (runLen (· == 62) t (t.size - pos) pos) (pos + runLen (· == 62) t (t.size - pos) pos) om lm li :: fr) (wt + 1) none sn' := by
  have hroom : min 4294967295 ((t.size : Int) - (pos : Int)).toNat = t.size - pos := by omega
  have hr := run_41 t (t.size - pos) pos 0 ((sn.add 24).add 16)
  rw [Nat.zero_add] at hr
  by_cases h6 : ((1 : Nat) : Int) > (t.size : Int) - (pos : Int)
  · refine ⟨sn.add 24, ?_⟩
    have := runLen_le (t := t) (· == 62) (t.size - pos) pos
    rw [if_pos (by omega)]
    show (if ((1 : Nat) : Int) > (t.size : Int) - (pos : Int) then _ else _) = _
    rw [if_pos h6]; rfl
  · refine ⟨(sn.add 24).add 16, ?_⟩
    show (if ((1 : Nat) : Int) > (t.size : Int) - (pos : Int) then _ else match run rcode t 41 (min 4294967295 ((t.size : Int) - (pos : Int)).toNat) pos 0 ((sn.add 24).add 16) with
      | .error why => _
      | .ok (n, seen) => _) = _
    rw [if_neg h6, hroom, hr]
    show (if runLen (· == 62) t (t.size - pos) pos < 1 then _ else _) = _
    by_cases hn : runLen (· == 62) t (t.size - pos) pos < 1
    · rw [if_pos hn, if_pos hn]; rfl
    · rw [if_neg hn, if_neg hn]
      show (if wt + 1 + 0 > 16777216 then _ else _) = _
      rw [if_neg (by omega)]; rfl

theorem mark_35 : (St t st 35 pos hd om mk (-1) li fr wt none sn).step = St t st 37 pos hd om (mk.setIfInBounds 0 (some pos)) 0 li fr wt none (sn.add 17) := rfl
theorem mark_44 : (St t st 44 pos hd om mk 0 li fr wt none sn).step = St t st 46 pos hd om (mk.setIfInBounds 1 (some pos)) 1 1 fr wt none (sn.add 17) := by
  with_unfolding_all rfl

/-- the end, or a line feed as the last sign -/
def atEnd (t : Array Nat) (pos : Nat) : Bool := pos == t.size || (pos + 1 == t.size && t.getD pos 0 == 10)
theorem at_46 : (St t st 46 pos hd om mk lm li fr wt none sn).step =
    if atEnd t pos = true then St t st 48 pos hd om mk lm li fr wt none ((sn.add 6).add 48) else St t st 46 pos hd om mk lm li fr wt (some false) ((sn.add 6).add 48) := by
  show (if atEnd t pos = true then _ else _) = _
  rfl
theorem end_48 : (St t st 48 pos hd om mk lm li fr wt none sn).step = St t st 48 pos pos om mk lm li fr wt (some true) (sn.add 1) := by
  show (if (om && ((false && (pos != t.size)) || (false && (pos == st)))) = true then _ else _) = _
  rw [if_neg (by simp)]; rfl

theorem yes_21 {pc n p : Nat} {om' : Bool} {lm' li' : Int} : (St t st pc pos hd om mk lm li (G21 n p om' lm' li' :: fr) (wt + 1) (some true) sn).step = St t st 21 p hd om' mk lm li fr wt (some true) sn := rfl
theorem yes_37 {pc n p : Nat} {om' : Bool} {lm' li' : Int} : (St t st pc pos hd om mk lm li (G37 n p om' lm' li' :: fr) (wt + 1) (some true) sn).step = St t st 37 p hd om' mk lm li fr wt (some true) sn := rfl
theorem no_21 {pc n p : Nat} {om' : Bool} {lm' li' : Int} (hw : wt ≤ 1000) : (St t st pc pos hd om mk lm li (G21 (n + 1) p om' lm' li' :: fr) (wt + 1) (some false) sn).step =
    if n < 6 then St t st 21 p hd om' mk lm' li' fr wt (some false) sn
    else St t st 35 (p - 1) (p - 1) om' mk lm' li' (G21 n (p - 1) om' lm' li' :: fr) (wt + 1) none sn := by
  have hc : ((n + 1 : Nat) : Int) - 1 = (n : Int) := by omega
  show (if ((n + 1 : Nat) : Int) - 1 < ((6 : Nat) : Int) then _ else M.afterRun _ _ (((n + 1 : Nat) : Int) - 1) _) = _
  rw [hc]
  by_cases h : n < 6
  · rw [if_pos h, if_pos (by omega)]; rfl
  · rw [if_neg h, if_neg (by omega)]
    show (if wt + 1 + 0 > 16777216 then _ else _) = _
    rw [if_neg (by omega)]; rfl
theorem no_37 {pc n p : Nat} {om' : Bool} {lm' li' : Int} (hw : wt ≤ 1000) : (St t st pc pos hd om mk lm li (G37 (n + 1) p om' lm' li' :: fr) (wt + 1) (some false) sn).step =
    if n < 1 then St t st 37 p hd om' mk lm' li' fr wt (some false) sn
    else St t st 44 (p - 1) (p - 1) om' mk lm' li' (G37 n (p - 1) om' lm' li' :: fr) (wt + 1) none sn := by
  have hc : ((n + 1 : Nat) : Int) - 1 = (n : Int) := by omega
  show (if ((n + 1 : Nat) : Int) - 1 < ((1 : Nat) : Int) then _ else M.afterRun _ _ (((n + 1 : Nat) : Int) - 1) _) = _
  rw [hc]
  by_cases h : n < 1
  · rw [if_pos h, if_pos (by omega)]; rfl
  · rw [if_neg h, if_neg (by omega)]
    show (if wt + 1 + 0 > 16777216 then _ else _) = _
    rw [if_neg (by omega)]; rfl

theorem yes_ns {pc p : Nat} {om' : Bool} : (St t st pc pos hd om mk lm li (NS p om' :: fr) (wt + 1) (some true) sn).step = St t st 9 p hd om' mk lm li fr wt (some true) sn := rfl
theorem no_ns {pc p : Nat} {om' : Bool} : (St t st pc pos hd om mk lm li [NS p om'] 1 (some false) sn).step =
    if p < t.size then St t (p + 1) 9 (p + 1) (p + 1) false mk (-1) (-1) [NS (p + 1) false] 1 none sn else St t st 9 p hd om' mk lm li [] 0 (some false) sn := by
  show (if p < t.size then _ else _) = _
  by_cases h : p < t.size
  · rw [if_pos h, if_pos h]; rfl
  · rw [if_neg h, if_neg h]; rfl
end
end Mine

end
section
open PySem PySem.Sre
namespace Mine

def FailS (t : Array Nat) (st : Nat) (fr : List Sre.Frame) (wt : Nat) (m : M) : Prop :=
  ∃ pc pos hd om mk lm li sn, mk.size = 2 ∧ m = St t st pc pos hd om mk lm li fr wt (some false) sn
def OkS (t : Array Nat) (st : Nat) (fr : List Sre.Frame) (wt p e : Nat) (m : M) : Prop :=
  ∃ pc pos om mk li sn, mk.size = 2 ∧ mk.getD 0 none = some p ∧ mk.getD 1 none = some e ∧ m = St t st pc pos e om mk 1 li fr wt (some true) sn

/-- the > from p on -/
noncomputable def gts (t : Array Nat) (p : Nat) : Nat := runLen (· == 62) t (t.size - p) p
def TailOk (t : Array Nat) (p : Nat) : Prop := 1 ≤ gts t p ∧ atEnd t (p + gts t p) = true
/-- the figures from p on, sixteen at most -/
noncomputable def figs (t : Array Nat) (p : Nat) : Nat := runLen isHex t (min 16 (t.size - p)) p
def HeadAt (t : Array Nat) (s : Nat) : Prop :=
  s + 6 ≤ t.size ∧ t.getD s 0 = 32 ∧ lowerUni (t.getD (s + 1) 0) = 97 ∧ lowerUni (t.getD (s + 2) 0) = 116 ∧ t.getD (s + 3) 0 = 32 ∧ t.getD (s + 4) 0 = 48 ∧ lowerUni (t.getD (s + 5) 0) = 120
def GoodAt (t : Array Nat) (s : Nat) : Prop := HeadAt t s ∧ 6 ≤ figs t (s + 6) ∧ TailOk t (s + 6 + figs t (s + 6))

theorem runLen_at {q : Nat → Bool} {t : Array Nat} : ∀ {n p j : Nat}, j < runLen q t n p → q (t.getD (p + j) 0) = true
  | 0, _, _, h => by simp [runLen] at h
  | n + 1, p, j, h => by
    unfold runLen at h
    split at h
    · rename_i hq
      cases j with
      | zero => exact hq
      | succ j =>
        have := runLen_at (q := q) (t := t) (n := n) (p := p + 1) (j := j) (by omega)
        rwa [Nat.add_assoc, Nat.add_comm 1 j] at this
    · omega
theorem runLen_stop {q : Nat → Bool} {t : Array Nat} : ∀ {n p : Nat}, runLen q t n p < n → q (t.getD (p + runLen q t n p) 0) = false
  | 0, _, h => by omega
  | n + 1, p, h => by
    unfold runLen at h ⊢
    split at h
    · rename_i hq
      rw [if_pos hq]
      have := runLen_stop (q := q) (t := t) (n := n) (p := p + 1) (by omega)
      rwa [Nat.add_assoc, Nat.add_comm 1 _] at this
    · rename_i hq
      rw [if_neg hq]
      simpa using hq

section
variable {t : Array Nat} {st : Nat} {hd : Nat} {om : Bool} {mk : Array (Option Nat)} {li : Int} {fr : List Sre.Frame} {wt : Nat} {sn : Seen}

theorem back_37 (hw : wt ≤ 900) {p : Nat} : ∀ (k : Nat) (hd : Nat) (mk : Array (Option Nat)) (sn : Seen) (li' : Int), mk.size = 2 → (∀ j, 1 ≤ j → j ≤ k + 1 → atEnd t (p + j) = false) →
    Rch (3 * (k + 1)) (St t st 44 (p + (k + 1)) hd om mk 0 li (G37 (k + 1) (p + (k + 1)) om 0 li' :: fr) (wt + 1) none sn) (FailS t st fr wt) := by
  intro k
  induction k generalizing li with
  | zero =>
    intro hd mk sn li' hm hno
    refine Rch.stepTo mark_44 ?_
    refine Rch.stepTo at_46 ?_
    rw [if_neg (by rw [hno 1 (by omega) (by omega)]; exact Bool.false_ne_true)]
    refine Rch.stepTo (no_37 (by omega)) ?_
    rw [if_pos (by omega)]
    exact Rch.here ⟨_, _, _, _, _, _, _, _, by simpa using hm, rfl⟩
  | succ k ih =>
    intro hd mk sn li' hm hno
    refine Rch.mono (N := (3 * (k + 1)) + 1 + 1 + 1) ?_ (by omega)
    refine Rch.stepTo mark_44 ?_
    refine Rch.stepTo at_46 ?_
    rw [if_neg (by rw [hno _ (by omega) (by omega)]; exact Bool.false_ne_true)]
    refine Rch.stepTo (no_37 (by omega)) ?_
    rw [if_neg (by omega)]
    exact ih _ _ _ _ (by simpa using hm) (fun j h1 h2 => hno j h1 (by omega))

theorem tail_ok (hw : wt ≤ 900) (hs : t.size ≤ 1000000) {p : Nat} (hp : p ≤ t.size) (hm : mk.size = 2) (h : TailOk t p) :
    Rch 6 (St t st 35 p hd om mk (-1) li fr wt none sn) (OkS t st fr wt p (p + gts t p)) := by
  obtain ⟨h1, h2⟩ := h
  refine Rch.stepTo mark_35 ?_
  obtain ⟨sn', e⟩ := rep_37 (t := t) (st := st) (pos := p) (hd := hd) (om := om) (mk := mk.setIfInBounds 0 (some p)) (lm := 0) (li := li) (fr := fr) (wt := wt) (sn := sn.add 17) hp (by omega) (by omega)
  refine Rch.stepTo e ?_
  have hneg : ¬ runLen (· == 62) t (t.size - p) p < 1 := by show ¬ gts t p < 1; omega
  rw [if_neg hneg]
  refine Rch.stepTo mark_44 ?_
  refine Rch.stepTo at_46 ?_
  have hpos : atEnd t (p + runLen (· == 62) t (t.size - p) p) = true := h2
  rw [if_pos hpos]
  refine Rch.stepTo end_48 ?_
  refine Rch.stepTo yes_37 ?_
  exact Rch.here ⟨_, _, _, _, _, _, by simpa using hm, by simp [hm, Array.getD_eq_getD_getElem?], by simp [hm, Array.getD_eq_getD_getElem?, gts], rfl⟩

theorem tail_no (hw : wt ≤ 900) (hs : t.size ≤ 1000000) {p : Nat} (hp : p ≤ t.size) (hm : mk.size = 2) (h : ¬ TailOk t p) :
    Rch (3 * t.size + 2) (St t st 35 p hd om mk (-1) li fr wt none sn) (FailS t st fr wt) := by
  refine Rch.mono (N := 3 * gts t p + 1 + 1) ?_ (by have : gts t p ≤ t.size - p := runLen_le _ _ _; omega)
  refine Rch.stepTo mark_35 ?_
  obtain ⟨sn', e⟩ := rep_37 (t := t) (st := st) (pos := p) (hd := hd) (om := om) (mk := mk.setIfInBounds 0 (some p)) (lm := 0) (li := li) (fr := fr) (wt := wt) (sn := sn.add 17) hp (by omega) (by omega)
  refine Rch.stepTo e ?_
  by_cases h1 : gts t p < 1
  · rw [if_pos (show runLen (· == 62) t (t.size - p) p < 1 from h1)]
    exact Rch.here ⟨_, _, _, _, _, _, _, _, by simpa using hm, rfl⟩
  · rw [if_neg (show ¬ runLen (· == 62) t (t.size - p) p < 1 from h1)]
    show Rch (3 * gts t p) (St t st 44 (p + gts t p) (p + gts t p) om _ 0 li (G37 (gts t p) (p + gts t p) om 0 li :: fr) (wt + 1) none sn') _
    have hall : ∀ j, 1 ≤ j → j ≤ gts t p → atEnd t (p + j) = false := by
      intro j hj1 hj2
      by_cases hj : j = gts t p
      · subst hj
        cases hq : atEnd t (p + gts t p) with
        | false => rfl
        | true => exact absurd ⟨by omega, hq⟩ h
      · have hlt : j < gts t p := by omega
        have hc := runLen_at (q := (· == 62)) (t := t) (n := t.size - p) (p := p) (j := j) hlt
        have hle : gts t p ≤ t.size - p := runLen_le _ _ _
        simp only [beq_iff_eq] at hc
        simp only [atEnd, hc, Bool.or_eq_false_iff, Bool.and_eq_false_iff, beq_eq_false_iff_ne]
        refine ⟨by omega, Or.inr (by decide)⟩
    obtain ⟨k, hk⟩ : ∃ k, gts t p = k + 1 := ⟨gts t p - 1, by omega⟩
    rw [hk] at hall ⊢
    exact back_37 hw k _ _ _ _ (by simpa using hm) hall

theorem back_21 (hw : wt ≤ 800) (hs : t.size ≤ 1000000) {p : Nat} : ∀ (n : Nat) (hd : Nat) (mk : Array (Option Nat)) (sn : Seen), mk.size = 2 → p + n ≤ t.size → 1 ≤ n → (∀ j, 6 ≤ j → j ≤ n → ¬ TailOk t (p + j)) →
    Rch ((3 * t.size + 3) * n) (St t st 35 (p + n) hd om mk (-1) li (G21 n (p + n) om (-1) li :: fr) (wt + 1) none sn) (FailS t st fr wt) ∨ n < 6 := by
  intro n
  induction n with
  | zero => intro hd mk sn hm hp h1; omega
  | succ n ih =>
    intro hd mk sn hm hp h1 hno
    by_cases h6 : n + 1 < 6
    · exact Or.inr h6
    · refine Or.inl ?_
      refine Rch.mono (N := (3 * t.size + 2) + ((3 * t.size + 3) * n + 1)) ?_ (by rw [Nat.mul_succ]; omega)
      refine Rch.trans (tail_no (by omega) hs hp hm (hno (n + 1) (by omega) (Nat.le_refl _))) ?_
      rintro m' ⟨pc, pos, hd', om', mk', lm', li', sn', hm', rfl⟩
      refine Rch.stepTo (no_21 (by omega)) ?_
      by_cases hn : n < 6
      · rw [if_pos hn]
        exact Rch.here ⟨_, _, _, _, _, _, _, _, hm', rfl⟩
      · rw [if_neg hn]
        rcases ih (p + (n + 1) - 1) mk' sn' hm' (by omega) (by omega) (fun j h1 h2 => hno j h1 (by omega)) with h | h
        · exact h
        · omega

/-- the attempt at a place: it is taken where GoodAt says so -/
theorem attempt_ok (hs : t.size ≤ 1000000) {s : Nat} (hm : mk.size = 2) (h : GoodAt t s) :
    Rch 14 (St t s 9 s hd om mk (-1) (-1) [NS s om] 1 none sn) (OkS t s [NS s om] 1 (s + 6 + figs t (s + 6)) (s + 6 + figs t (s + 6) + gts t (s + 6 + figs t (s + 6)))) := by
  obtain ⟨⟨h0, h1, h2, h3, h4, h5, h6⟩, hf, ht⟩ := h
  refine Rch.stepTo one_9 ?_
  rw [if_neg (by omega), if_pos h1]
  refine Rch.stepTo one_11 ?_
  rw [if_neg (by omega), if_pos h2]
  refine Rch.stepTo one_13 ?_
  rw [if_neg (by omega), if_pos h3]
  refine Rch.stepTo one_15 ?_
  rw [if_neg (by omega), if_pos h4]
  refine Rch.stepTo one_17 ?_
  rw [if_neg (by omega), if_pos h5]
  refine Rch.stepTo one_19 ?_
  rw [if_neg (by omega), if_pos h6]
  show Rch 8 (St t s 21 (s + 6) hd om mk (-1) (-1) [NS s om] 1 none _) _
  obtain ⟨sn', e⟩ := rep_21 (t := t) (st := s) (pos := s + 6) (hd := hd) (om := om) (mk := mk) (lm := -1) (li := -1) (fr := [NS s om]) (wt := 1) (sn := (((((sn.add 16).add 40).add 40).add 16).add 16).add 40) h0 (by omega)
  refine Rch.stepTo e ?_
  have hneg : ¬ runLen isHex t (min 16 (t.size - (s + 6))) (s + 6) < 6 := by show ¬ figs t (s + 6) < 6; omega
  rw [if_neg hneg]
  have hle : figs t (s + 6) ≤ min 16 (t.size - (s + 6)) := runLen_le _ _ _
  refine Rch.trans (N := 6) (N' := 1) (tail_ok (by omega) hs (by show s + 6 + figs t (s + 6) ≤ t.size; omega) hm ht) ?_
  rintro m' ⟨pc, pos, om', mk', li', sn'', hm', g0, g1, rfl⟩
  refine Rch.stepTo yes_21 (Rch.here ⟨_, _, _, _, _, _, hm', g0, g1, rfl⟩)

theorem attempt_no (hs : t.size ≤ 1000000) {s : Nat} (hm : mk.size = 2) (h : ¬ GoodAt t s) :
    Rch ((3 * t.size + 3) * 16 + 8) (St t s 9 s hd om mk (-1) (-1) [NS s om] 1 none sn) (FailS t s [NS s om] 1) := by
  have fin : ∀ {N pc pos hd lm li sn}, Rch N (St t s pc pos hd om mk lm li [NS s om] 1 (some false) sn) (FailS t s [NS s om] 1) := fun {N pc pos hd lm li sn} => Rch.here ⟨_, _, _, _, _, _, _, _, hm, rfl⟩
  refine Rch.stepTo one_9 ?_
  by_cases a0 : t.size ≤ s
  · rw [if_pos a0]; exact fin
  rw [if_neg a0]
  by_cases h1 : t.getD s 0 = 32
  case neg => rw [if_neg h1]; exact fin
  rw [if_pos h1]
  refine Rch.stepTo one_11 ?_
  by_cases a1 : t.size ≤ s + 1
  · rw [if_pos a1]; exact fin
  rw [if_neg a1]
  by_cases h2 : lowerUni (t.getD (s + 1) 0) = 97
  case neg => rw [if_neg h2]; exact fin
  rw [if_pos h2]
  refine Rch.stepTo one_13 ?_
  by_cases a2 : t.size ≤ s + 1 + 1
  · rw [if_pos a2]; exact fin
  rw [if_neg a2]
  by_cases h3 : lowerUni (t.getD (s + 1 + 1) 0) = 116
  case neg => rw [if_neg h3]; exact fin
  rw [if_pos h3]
  refine Rch.stepTo one_15 ?_
  by_cases a3 : t.size ≤ s + 1 + 1 + 1
  · rw [if_pos a3]; exact fin
  rw [if_neg a3]
  by_cases h4 : t.getD (s + 1 + 1 + 1) 0 = 32
  case neg => rw [if_neg h4]; exact fin
  rw [if_pos h4]
  refine Rch.stepTo one_17 ?_
  by_cases a4 : t.size ≤ s + 1 + 1 + 1 + 1
  · rw [if_pos a4]; exact fin
  rw [if_neg a4]
  by_cases h5 : t.getD (s + 1 + 1 + 1 + 1) 0 = 48
  case neg => rw [if_neg h5]; exact fin
  rw [if_pos h5]
  refine Rch.stepTo one_19 ?_
  by_cases a5 : t.size ≤ s + 1 + 1 + 1 + 1 + 1
  · rw [if_pos a5]; exact fin
  rw [if_neg a5]
  by_cases h6 : lowerUni (t.getD (s + 1 + 1 + 1 + 1 + 1) 0) = 120
  case neg => rw [if_neg h6]; exact fin
  rw [if_pos h6]
  show Rch ((3 * t.size + 3) * 16 + 2) (St t s 21 (s + 6) hd om mk (-1) (-1) [NS s om] 1 none _) _
  obtain ⟨sn', e⟩ := rep_21 (t := t) (st := s) (pos := s + 6) (hd := hd) (om := om) (mk := mk) (lm := -1) (li := -1) (fr := [NS s om]) (wt := 1) (sn := (((((sn.add 16).add 40).add 40).add 16).add 16).add 40) (by omega) (by omega)
  refine Rch.stepTo e ?_
  by_cases hf : figs t (s + 6) < 6
  · rw [if_pos (show runLen isHex t (min 16 (t.size - (s + 6))) (s + 6) < 6 from hf)]; exact fin
  rw [if_neg (show ¬ runLen isHex t (min 16 (t.size - (s + 6))) (s + 6) < 6 from hf)]
  have hle : figs t (s + 6) ≤ min 16 (t.size - (s + 6)) := runLen_le _ _ _
  have hnot : ¬ TailOk t (s + 6 + figs t (s + 6)) := fun hT => h ⟨⟨by omega, h1, h2, h3, h4, h5, h6⟩, by omega, hT⟩
  have hno : ∀ j, 6 ≤ j → j ≤ figs t (s + 6) → ¬ TailOk t (s + 6 + j) := by
    intro j hj1 hj2
    by_cases hj : j = figs t (s + 6)
    · subst hj; exact hnot
    · rintro ⟨q1, q2⟩
      have hx := runLen_at (q := isHex) (t := t) (n := min 16 (t.size - (s + 6))) (p := s + 6) (j := j) (show j < figs t (s + 6) by omega)
      have hy := runLen_at (q := (· == 62)) (t := t) (n := t.size - (s + 6 + j)) (p := s + 6 + j) (j := 0) (by have : 1 ≤ runLen (· == 62) t (t.size - (s + 6 + j)) (s + 6 + j) := q1; omega)
      simp only [Nat.add_zero, beq_iff_eq] at hy
      rw [hy] at hx
      revert hx; decide
  rcases back_21 (t := t) (st := s) (om := om) (li := -1) (fr := [NS s om]) (wt := 1) (by omega) hs (p := s + 6) (figs t (s + 6)) (s + 6 + figs t (s + 6)) mk sn' hm (by omega) (by omega) hno with hr | hr
  · refine Rch.mono hr ?_
    have : (3 * t.size + 3) * figs t (s + 6) ≤ (3 * t.size + 3) * 16 := Nat.mul_le_mul_left _ (by omega)
    omega
  · exact absurd hr hf
end

/-- how the search ends -/
def Ended (t : Array Nat) (r : Option (Nat × Nat × Nat)) (m : M) : Prop :=
  match r with
  | none => m.outcome = some .failed
  | some (s, p, e) => m.outcome = some .matched ∧ m.start = s ∧ m.handed = e ∧ m.marks.getD 0 none = some p ∧ m.marks.getD 1 none = some e ∧ m.lastmark = 1

theorem end_ok {t : Array Nat} {s p e : Nat} {om : Bool} {m : M} (h : OkS t s [NS s om] 1 p e m) : Rch 2 m (Ended t (some (s, p, e))) := by
  obtain ⟨pc, pos, om', mk, li, sn, hm, h0, h1, rfl⟩ := h
  refine Rch.stepTo (yes_ns (wt := 0)) ?_
  refine Rch.step ?_
  exact Rch.here ⟨rfl, rfl, rfl, h0, h1, rfl⟩

theorem search_no {t : Array Nat} (hs : t.size ≤ 1000000) : ∀ (d s hd : Nat) (om : Bool) (mk : Array (Option Nat)) (sn : Seen), t.size - s = d → s ≤ t.size → mk.size = 2 → (∀ s', s ≤ s' → ¬ GoodAt t s') →
    Rch (((3 * t.size + 3) * 16 + 9) * (d + 1) + 1) (St t s 9 s hd om mk (-1) (-1) [NS s om] 1 none sn) (Ended t none) := by
  intro d
  induction d with
  | zero =>
    intro s hd om mk sn hd' hle hm hno
    refine Rch.mono (N := ((3 * t.size + 3) * 16 + 8) + (1 + 1)) ?_ (by omega)
    refine Rch.trans (attempt_no hs hm (hno s (Nat.le_refl _))) ?_
    rintro m' ⟨pc, pos, hd'', om', mk', lm', li', sn', hm', rfl⟩
    refine Rch.stepTo no_ns ?_
    rw [if_neg (by omega)]
    exact Rch.step (Rch.here rfl)
  | succ d ih =>
    intro s hd om mk sn hd' hle hm hno
    refine Rch.mono (N := ((3 * t.size + 3) * 16 + 8) + ((((3 * t.size + 3) * 16 + 9) * (d + 1) + 1) + 1)) ?_ (by rw [Nat.mul_succ _ (d + 1)]; omega)
    refine Rch.trans (attempt_no hs hm (hno s (Nat.le_refl _))) ?_
    rintro m' ⟨pc, pos, hd'', om', mk', lm', li', sn', hm', rfl⟩
    refine Rch.stepTo no_ns ?_
    rw [if_pos (by omega)]
    exact ih (s + 1) _ _ _ _ (by omega) (by omega) hm' (fun s' hs' => hno s' (by omega))

theorem search_ok {t : Array Nat} (hs : t.size ≤ 1000000) {s₀ : Nat} (hg : GoodAt t s₀) : ∀ (d s hd : Nat) (om : Bool) (mk : Array (Option Nat)) (sn : Seen), s₀ - s = d → s ≤ s₀ → mk.size = 2 → (∀ s', s ≤ s' → s' < s₀ → ¬ GoodAt t s') →
    Rch (((3 * t.size + 3) * 16 + 9) * d + 16) (St t s 9 s hd om mk (-1) (-1) [NS s om] 1 none sn) (Ended t (some (s₀, s₀ + 6 + figs t (s₀ + 6), s₀ + 6 + figs t (s₀ + 6) + gts t (s₀ + 6 + figs t (s₀ + 6))))) := by
  intro d
  induction d with
  | zero =>
    intro s hd om mk sn hd' hle hm hno
    have : s = s₀ := by omega
    subst this
    refine Rch.mono (N := 14 + 2) ?_ (by omega)
    exact Rch.trans (attempt_ok hs hm hg) fun m' hm' => end_ok hm'
  | succ d ih =>
    intro s hd om mk sn hd' hle hm hno
    refine Rch.mono (N := ((3 * t.size + 3) * 16 + 8) + ((((3 * t.size + 3) * 16 + 9) * d + 16) + 1)) ?_ (by rw [Nat.mul_succ _ d]; omega)
    refine Rch.trans (attempt_no hs hm (hno s (Nat.le_refl _) (by omega))) ?_
    rintro m' ⟨pc, pos, hd'', om', mk', lm', li', sn', hm', rfl⟩
    refine Rch.stepTo no_ns ?_
    have : s₀ + 6 ≤ t.size := hg.1.1
    rw [if_pos (by omega)]
    exact ih (s + 1) _ _ _ _ (by omega) (by omega) hm' (fun s' h1 h2 => hno s' (by omega) h2)
end Mine

end
section
open PySem PySem.Sre
namespace Mine

theorem runLen_eq {q : Nat → Bool} {t : Array Nat} : ∀ {n p k : Nat}, (∀ j, j < k → q (t.getD (p + j) 0) = true) → k ≤ n → (k = n ∨ q (t.getD (p + k) 0) = false) → runLen q t n p = k
  | 0, _, k, _, hk, _ => by have : k = 0 := by omega
                            subst this; rfl
  | n + 1, p, 0, _, _, hs => by
    rcases hs with h | h
    · omega
    · unfold runLen; rw [Nat.add_zero] at h; rw [if_neg (by rw [h]; exact Bool.false_ne_true)]
  | n + 1, p, k + 1, ha, hk, hs => by
    have h0 := ha 0 (by omega)
    rw [Nat.add_zero] at h0
    unfold runLen
    rw [if_pos h0]
    have := runLen_eq (q := q) (t := t) (n := n) (p := p + 1) (k := k) (fun j hj => by have := ha (j + 1) (by omega); rwa [show p + 1 + j = p + (j + 1) by omega]) (by omega)
      (by rw [show p + 1 + k = p + (k + 1) by omega]; exact hs.imp (fun h => by omega) id)
    omega

/-- from n down over the signs that q takes -/
noncomputable def down (q : Nat → Bool) (t : Array Nat) : Nat → Nat
  | 0 => 0
  | n + 1 => if q (t.getD n 0) = true then down q t n else n + 1
theorem down_le {q : Nat → Bool} {t : Array Nat} : ∀ n, down q t n ≤ n
  | 0 => Nat.le_refl _
  | n + 1 => by unfold down; split; (have := down_le (q := q) (t := t) n; omega); omega
theorem down_at {q : Nat → Bool} {t : Array Nat} : ∀ {n i : Nat}, down q t n ≤ i → i < n → q (t.getD i 0) = true
  | 0, _, _, h => by omega
  | n + 1, i, h, hi => by
    unfold down at h
    split at h
    · rename_i hq
      by_cases e : i = n
      · subst e; exact hq
      · exact down_at h (by omega)
    · omega
theorem down_stop {q : Nat → Bool} {t : Array Nat} : ∀ {n : Nat}, 0 < down q t n → q (t.getD (down q t n - 1) 0) = false
  | 0, h => by simp [down] at h
  | n + 1, h => by
    unfold down at h ⊢
    split at h
    · rename_i hq; rw [if_pos hq]; exact down_stop h
    · rename_i hq; rw [if_neg hq]; simpa using hq
theorem down_eq {q : Nat → Bool} {t : Array Nat} {f : Nat} : ∀ {n : Nat}, f ≤ n → (∀ i, f ≤ i → i < n → q (t.getD i 0) = true) → (f = 0 ∨ q (t.getD (f - 1) 0) = false) → down q t n = f
  | 0, hf, _, _ => by unfold down; omega
  | n + 1, hf, ha, hs => by
    unfold down
    by_cases e : f = n + 1
    · subst e
      rcases hs with h | h
      · omega
      · rw [Nat.add_sub_cancel] at h; rw [if_neg (by rw [h]; exact Bool.false_ne_true)]
    · rw [if_pos (ha n (by omega) (by omega))]
      exact down_eq (by omega) (fun i h1 h2 => ha i h1 (by omega)) hs

def endP (t : Array Nat) : Nat := if 0 < t.size ∧ t.getD (t.size - 1) 0 = 10 then t.size - 1 else t.size
noncomputable def marksP (t : Array Nat) : Nat := down (· == 62) t (endP t)
noncomputable def firstP (t : Array Nat) : Nat := down isHex t (marksP t)
/-- an id stands at the text's end -/
def Id (t : Array Nat) : Prop := marksP t < endP t ∧ 6 ≤ marksP t - firstP t ∧ marksP t - firstP t ≤ 16 ∧ 6 ≤ firstP t ∧ HeadAt t (firstP t - 6)

theorem endP_le (t : Array Nat) : endP t ≤ t.size := by unfold endP; split <;> omega
theorem marksP_le (t : Array Nat) : marksP t ≤ endP t := down_le _
theorem firstP_le (t : Array Nat) : firstP t ≤ marksP t := down_le _

theorem x_not_hex {c : Nat} (h : lowerUni c = 120) : isHex c = false := by
  rcases (lower_eq (c := c) (d := 120) (by decide)).mp h with h | ⟨_, h⟩
  · subst h; decide
  · have : c = 88 := by omega
    subst this; decide

theorem good_places {t : Array Nat} {s : Nat} (h : GoodAt t s) : endP t = s + 6 + figs t (s + 6) + gts t (s + 6 + figs t (s + 6)) ∧ marksP t = s + 6 + figs t (s + 6) ∧ firstP t = s + 6 := by
  obtain ⟨⟨h0, _, _, _, _, _, hx⟩, hf, hg, he⟩ := h
  generalize hn : figs t (s + 6) = n at *
  generalize hk : gts t (s + 6 + n) = k at *
  have hnle : n ≤ min 16 (t.size - (s + 6)) := by rw [← hn]; exact runLen_le _ _ _
  have hkle : k ≤ t.size - (s + 6 + n) := by rw [← hk]; exact runLen_le _ _ _
  have hhex : ∀ j, j < n → isHex (t.getD (s + 6 + j) 0) = true := fun j hj => runLen_at (n := min 16 (t.size - (s + 6))) (by show j < figs t (s + 6); omega)
  have hgt : ∀ j, j < k → t.getD (s + 6 + n + j) 0 = 62 := fun j hj => by
    have := runLen_at (q := (· == 62)) (t := t) (n := t.size - (s + 6 + n)) (p := s + 6 + n) (j := j) (by show j < gts t (s + 6 + n); omega)
    simpa using this
  have e1 : endP t = s + 6 + n + k := by
    simp only [atEnd, Bool.or_eq_true, Bool.and_eq_true, beq_iff_eq] at he
    unfold endP
    rcases he with he | ⟨he, hc⟩
    · rw [if_neg, he]
      rintro ⟨_, hc⟩
      have := hgt (k - 1) (by omega)
      rw [show s + 6 + n + (k - 1) = t.size - 1 by omega, hc] at this
      omega
    · rw [if_pos ⟨by omega, by rw [show t.size - 1 = s + 6 + n + k by omega]; exact hc⟩]
      omega
  have e2 : marksP t = s + 6 + n := by
    unfold marksP
    rw [e1]
    refine down_eq (by omega) (fun i h1 h2 => ?_) (Or.inr ?_)
    · have := hgt (i - (s + 6 + n)) (by omega)
      rw [show s + 6 + n + (i - (s + 6 + n)) = i by omega] at this
      rw [this]; rfl
    · have := hhex (n - 1) (by omega)
      rw [show s + 6 + (n - 1) = s + 6 + n - 1 by omega] at this
      cases hc : (t.getD (s + 6 + n - 1) 0 == 62) with
      | false => rfl
      | true => rw [beq_iff_eq.mp hc] at this; revert this; decide
  refine ⟨e1, e2, ?_⟩
  unfold firstP
  rw [e2]
  refine down_eq (by omega) (fun i h1 h2 => ?_) (Or.inr ?_)
  · have := hhex (i - (s + 6)) (by omega)
    rwa [show s + 6 + (i - (s + 6)) = i by omega] at this
  · rw [show s + 6 - 1 = s + 5 by omega]; exact x_not_hex hx

theorem id_of_good {t : Array Nat} {s : Nat} (h : GoodAt t s) : Id t ∧ s + 6 = firstP t := by
  obtain ⟨e1, e2, e3⟩ := good_places h
  obtain ⟨hh, hf, hg, he⟩ := h
  have hnle : figs t (s + 6) ≤ min 16 (t.size - (s + 6)) := runLen_le _ _ _
  refine ⟨⟨by omega, by omega, by omega, by omega, ?_⟩, e3.symm⟩
  rw [e3, Nat.add_sub_cancel]; exact hh

theorem good_of_id {t : Array Nat} (h : Id t) : GoodAt t (firstP t - 6) ∧ figs t (firstP t) = marksP t - firstP t ∧ gts t (marksP t) = endP t - marksP t := by
  obtain ⟨h1, h2, h3, h4, hh⟩ := h
  have l1 := endP_le t
  have l2 := firstP_le t
  have e1 : figs t (firstP t) = marksP t - firstP t := by
    unfold figs
    refine runLen_eq (fun j hj => down_at (n := marksP t) (show firstP t ≤ firstP t + j by omega) (by omega)) (by omega) (Or.inr ?_)
    rw [show firstP t + (marksP t - firstP t) = marksP t by omega]
    have := down_at (q := (· == 62)) (t := t) (n := endP t) (i := marksP t) (Nat.le_refl _) h1
    rw [beq_iff_eq.mp this]; decide
  have e2 : gts t (marksP t) = endP t - marksP t := by
    unfold gts
    refine runLen_eq (fun j hj => down_at (q := (· == 62)) (n := endP t) (show marksP t ≤ marksP t + j by omega) (by omega)) (by omega) ?_
    rw [show marksP t + (endP t - marksP t) = endP t by omega]
    by_cases hc : 0 < t.size ∧ t.getD (t.size - 1) 0 = 10
    · have : endP t = t.size - 1 := by unfold endP; rw [if_pos hc]
      right; rw [this, hc.2]; rfl
    · have : endP t = t.size := by unfold endP; rw [if_neg hc]
      left; omega
  refine ⟨⟨hh, ?_, ?_⟩, e1, e2⟩
  · rw [show firstP t - 6 + 6 = firstP t by omega, e1]; exact h2
  · rw [show firstP t - 6 + 6 = firstP t by omega, e1, show firstP t + (marksP t - firstP t) = marksP t by omega]
    refine ⟨by rw [e2]; omega, ?_⟩
    rw [e2, show marksP t + (endP t - marksP t) = endP t by omega]
    unfold atEnd
    by_cases hc : 0 < t.size ∧ t.getD (t.size - 1) 0 = 10
    · have : endP t = t.size - 1 := by unfold endP; rw [if_pos hc]
      rw [this, hc.2, show t.size - 1 + 1 = t.size by omega]; simp
    · have : endP t = t.size := by unfold endP; rw [if_neg hc]
      rw [this]; simp

def lidOf (n : Nat) : Nat := ((3 * n + 3) * 16 + 9) * (n + 1) + 20

theorem search_short {t : Array Nat} {pos : Nat} (h : t.size - pos < 13) : Rch 1 (forSearch rcode t 1 pos t.size false) (Ended t none) := by
  refine Rch.step (Rch.here ?_)
  have e : forSearch rcode t 1 pos t.size false = M.say { code := rcode, text := t, lim := t.size, start := pos, pc := 9, pos := pos, handed := pos, marks := Array.replicate 2 none, mustAdvance := false, seen := ({} : Seen).add 14 } false := by
    show (if (decide (pos > t.size) || decide (t.size - pos < 13)) = true then _ else _) = _
    rw [if_pos (by simp [h])]; rfl
  rw [e]; rfl
theorem search_long {t : Array Nat} (h : 13 ≤ t.size) : forSearch rcode t 1 0 t.size false = St t 0 9 0 0 true (Array.replicate 2 none) (-1) (-1) [NS 0 true] 1 none (({} : Seen).add 14) := by
  show (if (decide (0 > t.size) || decide (t.size - 0 < 13)) = true then _ else _) = _
  rw [if_neg (by simp; omega)]; rfl

theorem search_first {t : Array Nat} (hs : t.size ≤ 1000000) [Decidable (Id t)] : Rch (lidOf t.size) (forSearch rcode t 1 0 t.size false) (Ended t (if Id t then some (firstP t - 6, marksP t, endP t) else none)) := by
  by_cases h : Id t
  · rw [if_pos h]
    obtain ⟨hg, e1, e2⟩ := good_of_id h
    have l1 := endP_le t
    have l2 := firstP_le t
    obtain ⟨h1, h2, h3, h4, hh⟩ := h
    rw [search_long (by omega)]
    have := search_ok hs hg (firstP t - 6) 0 0 true (Array.replicate 2 none) (({} : Seen).add 14) (by omega) (by omega) (by simp) (fun s' _ hs' hg' => by
      have := (id_of_good hg').2; omega)
    rw [show firstP t - 6 + 6 = firstP t by omega, e1, show firstP t + (marksP t - firstP t) = marksP t by omega, e2, show marksP t + (endP t - marksP t) = endP t by omega] at this
    refine this.mono ?_
    unfold lidOf
    have : ((3 * t.size + 3) * 16 + 9) * (firstP t - 6) ≤ ((3 * t.size + 3) * 16 + 9) * (t.size + 1) := Nat.mul_le_mul_left _ (by omega)
    omega
  · rw [if_neg h]
    by_cases h13 : 13 ≤ t.size
    · rw [search_long h13]
      refine (search_no hs t.size 0 0 true (Array.replicate 2 none) (({} : Seen).add 14) (by omega) (by omega) (by simp) (fun s' _ hg' => h (id_of_good hg').1)).mono ?_
      unfold lidOf; omega
    · exact (search_short (by omega)).mono (by unfold lidOf; omega)

theorem search_second {t : Array Nat} : Rch (lidOf t.size) (forSearch rcode t 1 (endP t) t.size false) (Ended t none) := by
  refine (search_short ?_).mono (by unfold lidOf; omega)
  unfold endP; split <;> omega
end Mine

end
section
open PySem PySem.W PyProof.Rows
set_option maxRecDepth 100000
namespace Mine
theorem slot_sub : Slot "re.Pattern" "sub" "re.Pattern.sub" :=
  .of (owner := "re.Pattern") (n := "sub") (by rw [typeLookup_type, builtinLookup_eq_fast]; kernel_rfl) (by decide +kernel) (by decide +kernel) (by decide +kernel)
    (by first | exact .inl (by decide +kernel) | exact .inr (by decide +kernel)) (by rw [isSubtype_type]; kernel_rfl)
theorem type_sub : typeOf (.builtin "re.Pattern.sub") = pure (.type "method_descriptor") := by show builtinType _ = _; rw [builtinType_eq_fast]; kernel_rfl
theorem entry_sub : entryFor table "re.Pattern.sub" = some Builtin.«re.Pattern.sub» := entryFor_of_tree (by kernel_rfl)
theorem entry_loop : entryFor table "re.Pattern.sub.loop" = some Builtin.«re.Pattern.sub.loop» := entryFor_of_tree (by kernel_rfl)
theorem plain_loop : plainId "re.Pattern.sub.loop" = true := by decide +kernel
theorem args_sub (a b c : Value) : argsOk "re.Pattern.sub" ⟨[a, b, c], []⟩ := by unfold argsOk; kernel_rfl
theorem slot_group : Slot "re.Match" "group" "re.Match.group" :=
  .of (owner := "re.Match") (n := "group") (by rw [typeLookup_type, builtinLookup_eq_fast]; kernel_rfl) (by decide +kernel) (by decide +kernel) (by decide +kernel)
    (by first | exact .inl (by decide +kernel) | exact .inr (by decide +kernel)) (by rw [isSubtype_type]; kernel_rfl)
theorem type_group : typeOf (.builtin "re.Match.group") = pure (.type "method_descriptor") := by show builtinType _ = _; rw [builtinType_eq_fast]; kernel_rfl
theorem entry_group : entryFor table "re.Match.group" = some Builtin.«re.Match.group» := entryFor_of_tree (by kernel_rfl)
theorem args_group (a b : Value) : argsOk "re.Match.group" ⟨[a, b], []⟩ := by unfold argsOk; kernel_rfl
theorem attrs_pattern : PlainAttrs "re.Pattern" := ⟨⟨"object.__getattribute__", by rw [typeLookup_type, builtinLookup_eq_fast]; kernel_rfl, by decide +kernel⟩, by rw [typeLookup_type, builtinLookup_eq_fast]; kernel_rfl⟩
theorem attrs_match : PlainAttrs "re.Match" := ⟨⟨"object.__getattribute__", by rw [typeLookup_type, builtinLookup_eq_fast]; kernel_rfl, by decide +kernel⟩, by rw [typeLookup_type, builtinLookup_eq_fast]; kernel_rfl⟩
theorem fun_call : ∃ id, typeLookup (.type "function") "__call__" = pure (some (.builtin id)) := ⟨"function.__call__", by rw [typeLookup_type, builtinLookup_eq_fast]; kernel_rfl⟩
theorem str_bytearray : isSubtype (.type "str") (.type "bytearray") = pure false := by rw [isSubtype_type]; kernel_rfl
end Mine

end
section
open PySem PySem.W PyProof.Rows PySem.Builtin PySem.Builtin.Re
set_option maxRecDepth 100000
namespace Mine
section
variable {M : Model} {A : Around} {E : Value → Shared → Prop} {s : Shared}

theorem drive_wp {Q : Sre.M → Shared → Prop} : ∀ (n k : Nat) (m : Sre.M), k ≤ 4 * (n + 1) → (iter k m).outcome.isSome = true → Q (iter k m) s → wpAny M A (reDrive (n + 1) m) Q E s := by
  intro n
  induction n with
  | zero =>
    intro k m hk ho hq
    have e : iter 4 m = iter k m := by
      obtain ⟨j, ej⟩ : ∃ j, 4 = k + j := ⟨4 - k, by omega⟩
      rw [ej, iter_add, iter_fix ho]
    have e' : Sre.M.runFor reTurnSteps m = iter k m := (runFor_iter 4 m).trans e
    unfold reDrive
    show wpAny M A (if (Sre.M.runFor reTurnSteps m).outcome.isSome = true then pure (Sre.M.runFor reTurnSteps m) else _) Q E s
    rw [e', if_pos ho]
    exact wpAny_pure hq
  | succ n ih =>
    intro k m hk ho hq
    have e' : Sre.M.runFor reTurnSteps m = iter 4 m := runFor_iter 4 m
    unfold reDrive
    show wpAny M A (if (Sre.M.runFor reTurnSteps m).outcome.isSome = true then pure (Sre.M.runFor reTurnSteps m) else _) Q E s
    rw [e']
    by_cases h4 : (iter 4 m).outcome.isSome = true
    · rw [if_pos h4]
      have e : iter 4 m = iter k m := by
        rcases Nat.le_total k 4 with h | h
        · obtain ⟨j, ej⟩ : ∃ j, 4 = k + j := ⟨4 - k, by omega⟩
          rw [ej, iter_add, iter_fix ho]
        · obtain ⟨j, rfl⟩ : ∃ j, k = 4 + j := ⟨k - 4, by omega⟩
          rw [iter_add, iter_fix h4]
      rw [e]
      exact wpAny_pure hq
    · rw [if_neg h4]
      have hk4 : 4 < k := by
        refine Nat.lt_of_not_le fun h => h4 ?_
        obtain ⟨j, e⟩ : ∃ j, 4 = k + j := ⟨4 - k, by omega⟩
        rw [e, iter_add, iter_fix ho]; exact ho
      obtain ⟨j, rfl⟩ : ∃ j, k = 4 + j := ⟨k - 4, by omega⟩
      rw [iter_add] at ho hq
      exact wpAny_bind (wpAny_rule (ih j (iter 4 m) (by omega) ho hq))

theorem rules_wp {f : Nat → PUnit → Sem (ForInStep PUnit)} (hf : ∀ i (Q : ForInStep PUnit → Shared → Prop), Q (.yield ⟨⟩) s → wpAny M A (f i ⟨⟩) Q E s) {Q : PUnit → Shared → Prop} (h : Q ⟨⟩ s) :
    ∀ l : List Nat, wpAny M A (forIn l PUnit.unit f) Q E s
  | [] => by rw [List.forIn_nil]; exact wpAny_pure h
  | i :: l => by
    rw [List.forIn_cons]
    exact wpAny_bind (hf i _ (rules_wp hf h l))

theorem end_wp {t : Array Nat} {m₀ : Sre.M} {N : Nat} {r : Option (Nat × Nat × Nat)} (hr : Rch N m₀ (Ended t r)) (hN : N ≤ 2 ^ 60) {Q : Option Sre.M → Shared → Prop}
    (hno : r = none → Q none s)
    (hyes : ∀ b p e m, r = some (b, p, e) → m.start = b → m.handed = e → m.marks.getD 0 none = some p → m.marks.getD 1 none = some e → m.lastmark = 1 → Q (some m) s) :
    wpAny M A (reRunToEnd m₀) Q E s := by
  obtain ⟨k, hk, he⟩ := hr
  have ho : (iter k m₀).outcome.isSome = true := by
    cases r with
    | none => rw [show (iter k m₀).outcome = some .failed from he]; rfl
    | some x => obtain ⟨b, p, e⟩ := x; rw [he.1]; rfl
  unfold reRunToEnd
  refine wpAny_bind ?_
  rw [show (2 : Nat) ^ 64 = 18446744073709551615 + 1 from by decide]
  refine drive_wp _ k m₀ (by omega) ho ?_
  generalize iter k m₀ = m at he ho
  refine wpAny_bind (rules_wp (fun i Q hq => ?_) ?_ _)
  · by_cases hh : m.seen.has i = true
    · simp only [hh, if_true]
      exact wpAny_bind (wpAny_rule (wpAny_pure hq))
    · simp only [hh]
      exact wpAny_pure hq
  · cases r with
    | none =>
      have : m.outcome = some .failed := he
      rw [this]
      exact wpAny_pure (hno rfl)
    | some x =>
      obtain ⟨b, p, e⟩ := x
      obtain ⟨h1, h2, h3, h4, h5, h6⟩ := he
      rw [h1]
      exact wpAny_pure (hyes b p e m rfl h2 h3 h4 h5 h6)

/-- the pattern's object and its words -/
def PatAt (h : Heap) (P : Addr) : Prop :=
  ∃ oP fs C oC items n, h.get? P = some oP ∧ oP.cls = .type "re.Pattern" ∧ oP.dict = none ∧ oP.data = .fields fs ∧ reRawNat (fs.getD 6 .none) = 0 ∧ reRawNat (fs.getD 2 .none) = 1 ∧ fs.getD 5 .none = .ref C ∧
    h.get? C = some oC ∧ oC.data = .seq items n ∧ (items.map reRawOf).map (·.toNat) = rcode
theorem PatAt.keeps {h h' : Heap} {P : Addr} (x : PatAt h P) (hk : ∀ b o, h.get? b = some o → h'.get? b = some o) : PatAt h' P := by
  obtain ⟨oP, fs, C, oC, items, n, h1, h2, h3, h4, h5, h6, h7, h8, h9, h10⟩ := x
  exact ⟨oP, fs, C, oC, items, n, hk _ _ h1, h2, h3, h4, h5, h6, h7, hk _ _ h8, h9, h10⟩

theorem rawItems_wp {C : Addr} {oC : Obj} {items : Array Value} {n : Nat} {Q : Array Int → Shared → Prop} (ho : s.heap.get? C = some oC) (hd : oC.data = .seq items n) (h : Q (items.map reRawOf) s) : wpAny M A (reRawItems (.ref C)) Q E s := by
  unfold reRawItems
  exact wpAny_bind (wpAny_seqItems ho hd (wpAny_pure h))

theorem whole_wp {P : Addr} {x : Str} {t : Tok} {Q : ReTarget → Shared → Prop} (hp : PatAt s.heap P)
    (h : Q { pattern := .ref P, string := .str x t, code := rcode, text := x.cps, kind := 0, groups := 1, pos := 0, lim := x.cps.size } s) : wpAny M A (reWholeTarget (.ref P) (.str x t)) Q E s := by
  obtain ⟨oP, fs, C, oC, items, n, h1, h2, h3, h4, h5, h6, h7, h8, h9, h10⟩ := hp
  unfold reWholeTarget
  refine wpAny_bind (wpAny_fieldsOf h1 h4 ?_)
  have e : reTextOf (.str x t) = pure (x.cps, 0) := rfl
  rw [e]
  refine wpAny_bind (wpAny_pure ?_)
  dsimp only
  rw [h5, h6, h7]
  refine wpAny_bind (wpAny_pure ?_)
  refine wpAny_bind (rawItems_wp h8 h9 ?_)
  rw [h10]
  exact wpAny_pure h
end
end Mine

end
section
open PySem PySem.W PyProof.Rows PySem.Builtin PySem.Builtin.Re
set_option maxRecDepth 100000
namespace Mine

/-- what stripid tells of a text -/
noncomputable def bareA (t : Array Nat) : Array Nat := @ite _ (Id t) (Classical.propDecidable _) (t.extract 0 (firstP t - 6) ++ t.extract (marksP t) t.size) t
noncomputable def bareF (x : Str) : Str := ⟨bareA x.cps⟩

abbrev matchObj (x : Str) (t : Tok) (P : Addr) (n : Nat) (li : Int) (T : Addr) : Obj := { cls := .type "re.Match", data := .fields #[.str x t, .ref P, rawInt 0, rawInt n, rawInt li, .ref T] }
abbrev spanObj (b e p : Nat) : Obj := { cls := .type "tuple", data := .seq #[rawInt b, rawInt e, rawInt p, rawInt e] }

/-- how the called lambda ends -/
def SubEnd (h₀ : Heap) (L : Addr) (m : Str → Option Value) (need : List (Addr × Obj)) (y : Str) (s₁ : Shared) (v : Value) (s₂ : Shared) : Prop :=
  ∃ h' tk' t', v = .str y t' ∧ s₂ = { s₁ with heap := h', toks := tk' } ∧ Fr h₀ L h' m ∧ News h₀ L h' need
theorem SubEnd.intro {h₀ h' : Heap} {L : Addr} {m : Str → Option Value} {need news' : List (Addr × Obj)} {y y' : Str} {s₁ : Shared} {t' : Tok} {tk' : Nat} (e : y' = y) (F : Fr h₀ L h' m) (N : News h₀ L h' news') (hn : ∀ p ∈ need, p ∈ news') :
    SubEnd h₀ L m need y s₁ (.str y' t') { s₁ with heap := h', toks := tk' } := ⟨h', tk', t', by rw [e], rfl, F, fun p hp => N p (hn p hp)⟩

theorem join3 (a b c : Str) : Txt.join ⟨#[]⟩ [a, b, c] = ⟨a.cps ++ b.cps ++ c.cps⟩ := by
  show Builtin.Str.glued _ _ = _
  unfold Builtin.Str.glued
  simp
theorem join2 (a b : Str) : Txt.join ⟨#[]⟩ [a, b] = ⟨a.cps ++ b.cps⟩ := by
  show Builtin.Str.glued _ _ = _
  unfold Builtin.Str.glued
  simp
theorem join1 (a : Str) : Txt.join ⟨#[]⟩ [a] = a := by
  show Builtin.Str.glued _ _ = _
  unfold Builtin.Str.glued
  simp

theorem StrsAre.snoc {y : Str} {t : Tok} {vs : List Value} {ys : List Str} (h : StrsAre vs ys) : StrsAre (vs ++ [.str y t]) (ys ++ [y]) := kct_snoc h

section
variable {prog : Program} {w : World} {A : Around} {E : Value → Shared → Prop} {s : Shared} {h₀ : Heap} {L P f : Addr} {m : Str → Option Value} {news : List (Addr × Obj)} {x : Str} {t : Tok} {R : Result → Shared → Prop}

theorem slice_wp {M : Model} {a b : Nat} {v : Array Nat} {Q : Value → Shared → Prop} (hv : v.size ≤ 1000000) (h : Q (.str ⟨v.extract a b⟩ s.toks) { s with toks := s.toks + 1 }) : wpAny M A (reSlice v 0 a b) Q E s := by
  show wpAny M A (mkStr ⟨v.extract a b⟩) Q E s
  refine wpAny_mkStr h ?_
  show (v.extract a b).size ≤ sizeLine
  rw [sizeLine_eq, Array.size_extract]; omega

/-- the last turn: nothing more is found -/
theorem loop_last {D : Addr} {items : List Value} {ys : List Str} {c n done : Nat} (F : Fr h₀ L s.heap m) (N : News h₀ L s.heap ((D, seqObj "list" items.toArray c) :: news)) (hnD : ∀ p ∈ news, p.1 ≠ D) (hp : PatAt h₀ P)
    (hy : StrsAre items ys) (hx : x.cps.size ≤ 1000000) (hl : ys.length ≤ 10) (hsum : (ys.map (·.length)).sum ≤ 4000000) (hr : Rch (lidOf x.cps.size) (Sre.forSearch rcode x.cps 1 done x.cps.size false) (Ended x.cps none))
    (h : ∀ t' h' tk', Fr h₀ L h' m → News h₀ L h' news → R (.ok (.ret (.str (Txt.join ⟨#[]⟩ (ys ++ if done < x.cps.size then [⟨x.cps.extract done x.cps.size⟩] else [])) t'))) { s with heap := h', toks := tk' }) :
    codeAny (model prog w) A (.builtin "re.Pattern.sub.loop" ⟨[.ref P, .str x t, .ref f, rawInt 1, rawInt 0, rawInt n, rawInt done, rawInt done, .bool false, .ref D, .bool false], []⟩) R s := by
  have hlid : lidOf x.cps.size ≤ 2 ^ 60 := by
    unfold lidOf
    have : ((3 * x.cps.size + 3) * 16 + 9) * (x.cps.size + 1) ≤ ((3 * 1000000 + 3) * 16 + 9) * (1000000 + 1) := Nat.mul_le_mul (by omega) (by omega)
    omega
  have nD := N (D, seqObj "list" items.toArray c) (.head _)
  have hyl : items.length = ys.length := by
    clear nD N hl hsum h
    induction hy with
    | nil => rfl
    | cons _ _ _ ih => simp [ih]
  refine codeAny_builtin entry_loop ?_
  rw [Around.under_plainId plain_loop _]
  show wpAny _ A.in1 (reWholeTarget (.ref P) (.str x t) >>= _) _ _ _
  refine wpAny_bind (whole_wp (hp.keeps F.keep) ?_)
  dsimp only
  show wpAny _ A.in1 (reNextFound _ done false >>= _) _ _ _
  refine wpAny_bind (end_wp hr hlid (fun _ => ?_) (fun b p e mm hn => by cases hn))
  dsimp only
  have ej : (⟨x.cps.extract 0 0⟩ : Str) = ⟨#[]⟩ := by simp
  have hdn : (↑done : Int).toNat = done := Int.toNat_natCast done
  rw [hdn]
  by_cases hd : done < x.cps.size
  · rw [if_pos hd] at h ⊢
    refine wpAny_bind (slice_wp hx ?_)
    have s1 := Heap.SameBut.update s.heap D (Obj.mapSeq fun xs => xs.push (.str ⟨x.cps.extract done x.cps.size⟩ s.toks))
    obtain ⟨c2, hc2⟩ : ∃ c2, (s.heap.update D (Obj.mapSeq fun xs => xs.push (.str ⟨x.cps.extract done x.cps.size⟩ s.toks))).get? D = some (seqObj "list" (items.toArray.push (.str ⟨x.cps.extract done x.cps.size⟩ s.toks)) c2) := ⟨_, get?_update_seq nD.1 _⟩
    have F1 := ksk_fr F s1 nD.2.1 nD.2.2
    have N1 : News h₀ L _ news := ksk_news (fun p hp => N p (.tail _ hp)) s1 hnD
    have hz : items.toArray.size ≤ sizeLine := by rw [List.size_toArray, sizeLine_eq]; omega
    refine wpAny_bind (wpAny_updateSeq nD.1 rfl ?_ hz (by rw [Array.size_push]; omega))
    generalize s.heap.update D (Obj.mapSeq fun xs => xs.push (.str ⟨x.cps.extract done x.cps.size⟩ s.toks)) = h1 at F1 N1 hc2 s1
    refine wpAny_bind (slice_wp hx ?_)
    refine wpAny_bind (wpAny_seqItems hc2 rfl ?_)
    dsimp only
    rw [if_neg (by simp)]
    refine wpAny_bind (join_list (ys := ys ++ [⟨x.cps.extract done x.cps.size⟩]) ⟨_, hc2, rfl, _, rfl⟩ (by simpa using StrsAre.snoc hy) ?_ fun t' k => ?_)
    · simp only [List.map_append, List.sum_append, List.map_cons, List.map_nil, List.sum_cons, List.sum_nil, List.length_append, List.length_cons, List.length_nil, Nat.add_zero]
      have e1 : (⟨x.cps.extract done x.cps.size⟩ : Str).length ≤ 1000000 := by show (x.cps.extract done x.cps.size).size ≤ _; rw [Array.size_extract]; omega
      have e2 : (⟨x.cps.extract 0 0⟩ : Str).length = 0 := by show (x.cps.extract 0 0).size = 0; rw [Array.size_extract]; omega
      rw [e2]; omega
    · rw [ej]
      exact wpAny_pure (h _ _ _ F1 N1)
  · rw [if_neg hd] at h ⊢
    rw [List.append_nil] at h
    refine wpAny_bind (slice_wp hx ?_)
    refine wpAny_bind (wpAny_seqItems nD.1 rfl ?_)
    cases hy with
    | nil =>
      rw [if_pos (by rfl)]
      refine wpAny_bind (wpAny_pure ?_)
      rw [ej]
      exact wpAny_pure (h _ _ _ F (fun p hp => N p (.tail _ hp)))
    | cons y u hy' =>
      rw [if_neg (by simp)]
      refine wpAny_bind (join_list (ys := y :: _) ⟨_, nD.1, rfl, _, rfl⟩ (.cons y u hy') ?_ fun t' k => ?_)
      · have e2 : (⟨x.cps.extract 0 0⟩ : Str).length = 0 := by show (x.cps.extract 0 0).size = 0; rw [Array.size_extract]; omega
        rw [e2]; omega
      · rw [ej]
        exact wpAny_pure (h _ _ _ F (fun p hp => N p (.tail _ hp)))

theorem newMatch_wp {M : Model} {mm : Sre.M} {b p e n : Nat} {Q : Value → Shared → Prop} (q1 : mm.start = b) (q2 : mm.handed = e) (q3 : mm.marks.getD 0 none = some p) (q4 : mm.marks.getD 1 none = some e) (q5 : mm.lastmark = 1) (hpe : p ≤ e)
    (h : Q (.ref (s.heap.objs.size + 1)) { s with heap := (s.heap.push (spanObj b e p)).push (matchObj x t P n mm.lastindex s.heap.objs.size) }) :
    wpAny M A (reNewMatch (.ref P) (.str x t) 1 0 n mm) Q E s := by
  unfold reNewMatch
  have e0 : mm.marks.getD (2 * 0) none = some p := q3
  have e1 : mm.marks.getD (2 * 0 + 1) none = some e := q4
  have hr : List.range 1 = [0] := rfl
  rw [hr]
  simp only [List.flatMap_cons, List.flatMap_nil, List.any_cons, List.any_nil, e0, e1, q5, q1, q2]
  have hne : decide (e < p) = false := by simpa using hpe
  simp only [hne, Bool.and_false, Bool.or_false, Bool.false_eq_true, if_false]
  refine wpAny_bind (wpAny_newTuple ?_ (by simp [sizeLine_eq]))
  refine wpAny_newObj_type ?_ (by show Array.size _ ≤ _; simp [sizeLine_eq])
  rw [Heap.size_push]
  exact h

theorem take_split {v : Array Nat} {a b n : Nat} (h1 : a ≤ b) (h2 : b ≤ v.size) (hn : n = v.size) : v.extract a b ++ (if b < n then v.extract b n else #[]) = v.extract a v.size := by
  subst hn
  split
  · simp only [Array.extract_append_extract]
    congr 1 <;> omega
  · have : b = v.size := by omega
    subst this; simp

/-- what stands behind a found place: the match, the call, the next turn -/
theorem half {D : Addr} {items : List Value} {ys : List Str} {c tk : Nat} {h1 : Heap} {mm : Sre.M} (hid : Id x.cps) (F : Fr h₀ L h1 m) (N : News h₀ L h1 ((D, seqObj "list" items.toArray c) :: news)) (hnD : ∀ p ∈ news, p.1 < D) (hp : PatAt h₀ P) (hx : x.cps.size ≤ 1000000)
    (hy : StrsAre items ys) (hy0 : ys = [] ∧ firstP x.cps - 6 = 0 ∨ ys = [⟨x.cps.extract 0 (firstP x.cps - 6)⟩])
    (q1 : mm.start = firstP x.cps - 6) (q2 : mm.handed = endP x.cps) (q3 : mm.marks.getD 0 none = some (marksP x.cps)) (q4 : mm.marks.getD 1 none = some (endP x.cps)) (q5 : mm.lastmark = 1)
    (turn : ∀ (h : Heap) (tk : Nat) (items : Array Value) (c : Nat) (li : Int) (T M : Addr), Fr h₀ L h m →
      News h₀ L h ((M, matchObj x t P x.cps.size li T) :: (T, spanObj (firstP x.cps - 6) (endP x.cps) (marksP x.cps)) :: (D, seqObj "list" items c) :: news) → (∀ p ∈ news, p.1 < D) → D < T → T < M →
      wpAny (model prog w) A.in1 (call (.ref f) [.ref M]) (SubEnd h₀ L m ((D, seqObj "list" items c) :: news) ⟨x.cps.extract (marksP x.cps) (endP x.cps)⟩ s)
        (fun e s' => R (.error e) s') { s with heap := h, toks := tk })
    (h : ∀ t' h' tk', Fr h₀ L h' m → News h₀ L h' news → R (.ok (.ret (.str (bareF x) t'))) { s with heap := h', toks := tk' }) :
    wpAny (model prog w) A.in1 (do
        let found ← reNewMatch (Value.ref P) (Value.str x t) 1 0 x.cps.size mm
        let item ← holding [found] (call (Value.ref f) [found])
        if (item != Value.none) = true then do
            updateSeq D fun x => x.push item
            again (Code.builtin "re.Pattern.sub.loop" ⟨[Value.ref P, Value.str x t, Value.ref f, rawInt 1, rawInt 0, rawInt (0 + 1), rawInt ↑(endP x.cps), rawInt ↑(endP x.cps), Value.bool (endP x.cps == firstP x.cps - 6), Value.ref D, Value.bool false], []⟩)
          else
            again (Code.builtin "re.Pattern.sub.loop" ⟨[Value.ref P, Value.str x t, Value.ref f, rawInt 1, rawInt 0, rawInt (0 + 1), rawInt ↑(endP x.cps), rawInt ↑(endP x.cps), Value.bool (endP x.cps == firstP x.cps - 6), Value.ref D, Value.bool false], []⟩))
      (fun fin s' => match fin with | .done f => R (.ok f) s' | .again c' => c'.quiet = true ∧ codeAny (model prog w) A c' R s') (fun e s' => R (.error e) s') { s with heap := h1, toks := tk } := by
  obtain ⟨i1, i2, i3, i4, i5⟩ := id hid
  have l1 := endP_le x.cps
  have l2 := firstP_le x.cps
  refine wpAny_bind (newMatch_wp q1 q2 q3 q4 q5 (by omega) ?_)
  dsimp only
  have F1 := F.push (spanObj (firstP x.cps - 6) (endP x.cps) (marksP x.cps))
  have N1 := N.push F (spanObj (firstP x.cps - 6) (endP x.cps) (marksP x.cps))
  have F2 := F1.push (matchObj x t P x.cps.size mm.lastindex h1.objs.size)
  have N2 := N1.push F1 (matchObj x t P x.cps.size mm.lastindex h1.objs.size)
  rw [Heap.size_push] at N2
  have nD := N (D, seqObj "list" items.toArray c) (.head _)
  refine wpAny_bind (wpAny_holding (wpAny_mono (turn _ tk items.toArray c mm.lastindex h1.objs.size (h1.objs.size + 1) F2 N2 hnD (Heap.lt_size nD.1) (by exact Nat.lt_succ_self _)) ?_ fun _ _ e => e))
  rintro v s' ⟨h2, tk2, t2, rfl, rfl, F3, N3⟩
  have nD3 := N3 (D, seqObj "list" items.toArray c) (.head _)
  rw [if_pos (by rfl)]
  have s1 := Heap.SameBut.update h2 D (Obj.mapSeq fun xs => xs.push (.str ⟨x.cps.extract (marksP x.cps) (endP x.cps)⟩ t2))
  obtain ⟨c2, hc2⟩ : ∃ c2, (h2.update D (Obj.mapSeq fun xs => xs.push (.str ⟨x.cps.extract (marksP x.cps) (endP x.cps)⟩ t2))).get? D = some (seqObj "list" (items.toArray.push (.str ⟨x.cps.extract (marksP x.cps) (endP x.cps)⟩ t2)) c2) := ⟨_, get?_update_seq nD3.1 _⟩
  have hyl : items.length = ys.length := by
    clear nD nD3 N N1 N2 N3 h turn hc2 s1 hy0
    induction hy with
    | nil => rfl
    | cons _ _ _ ih => simp [ih]
  have hyb : ys.length ≤ 1 := by rcases hy0 with ⟨e, _⟩ | e <;> (rw [e]; simp)
  have hz : items.toArray.size ≤ sizeLine := by rw [List.size_toArray, sizeLine_eq]; omega
  have F4 := ksk_fr F3 s1 nD3.2.1 nD3.2.2
  have N4 : News h₀ L _ news := ksk_news (fun p hp => N3 p (.tail _ hp)) s1 (fun p hp => Nat.ne_of_lt (hnD p hp))
  refine wpAny_bind (wpAny_updateSeq nD3.1 rfl ?_ hz (by rw [Array.size_push]; omega))
  dsimp only
  generalize h2.update D (Obj.mapSeq fun xs => xs.push (.str ⟨x.cps.extract (marksP x.cps) (endP x.cps)⟩ t2)) = h3 at F4 N4 hc2 s1
  have hb : (endP x.cps == firstP x.cps - 6) = false := by rw [beq_eq_false_iff_ne]; omega
  rw [hb]
  refine wpAny_pure ⟨plainId_quiet plain_loop _, ?_⟩
  have hlen : ∀ a b : Nat, (⟨x.cps.extract a b⟩ : Str).length ≤ 1000000 := fun a b => by show (x.cps.extract a b).size ≤ _; rw [Array.size_extract]; omega
  refine loop_last (s := { s with heap := h3, toks := tk2 }) (items := items ++ [.str ⟨x.cps.extract (marksP x.cps) (endP x.cps)⟩ t2]) (ys := ys ++ [⟨x.cps.extract (marksP x.cps) (endP x.cps)⟩]) (c := c2) (n := 1) (done := endP x.cps) F4 ?_ (fun p hp => Nat.ne_of_lt (hnD p hp)) hp (StrsAre.snoc hy) hx (by simp; omega) ?_ search_second fun t' h' tk' F' N' => ?_
  · intro p hp
    rcases List.mem_cons.mp hp with rfl | hp
    · exact ⟨by simpa using hc2, nD3.2⟩
    · exact N4 p hp
  · have := hlen (marksP x.cps) (endP x.cps)
    have := hlen 0 (firstP x.cps - 6)
    rcases hy0 with ⟨e, _⟩ | e <;> (rw [e]; simp only [List.nil_append, List.map_append, List.map_cons, List.map_nil, List.sum_append, List.sum_cons, List.sum_nil]; omega)
  · have e : Txt.join ⟨#[]⟩ (ys ++ [⟨x.cps.extract (marksP x.cps) (endP x.cps)⟩] ++ if endP x.cps < x.cps.size then [⟨x.cps.extract (endP x.cps) x.cps.size⟩] else []) = bareF x := by
      have hsp := take_split (v := x.cps) (a := marksP x.cps) (b := endP x.cps) (by omega) (by omega) rfl
      unfold bareF bareA
      rw [if_pos hid, ← hsp]
      rcases hy0 with ⟨e, e0⟩ | e
      · rw [e, e0]
        split
        · simp only [List.nil_append, List.cons_append]; rw [join2]; simp
        · simp only [List.nil_append, List.append_nil]; rw [join1]; simp
      · rw [e]
        split
        · simp only [List.nil_append, List.cons_append]; rw [join3]; simp
        · simp only [List.nil_append, List.cons_append]; rw [join2]; simp
    rw [e]
    exact h t' h' tk' F' N'

/-- the first turn -/
theorem loop_first {D : Addr} {c : Nat} (F : Fr h₀ L s.heap m) (N : News h₀ L s.heap ((D, seqObj "list" #[] c) :: news)) (hnD : ∀ p ∈ news, p.1 < D) (hp : PatAt h₀ P) (hx : x.cps.size ≤ 1000000)
    (turn : Id x.cps → ∀ (h : Heap) (tk : Nat) (items : Array Value) (c : Nat) (li : Int) (T M : Addr), Fr h₀ L h m →
      News h₀ L h ((M, matchObj x t P x.cps.size li T) :: (T, spanObj (firstP x.cps - 6) (endP x.cps) (marksP x.cps)) :: (D, seqObj "list" items c) :: news) → (∀ p ∈ news, p.1 < D) → D < T → T < M →
      wpAny (model prog w) A.in1 (call (.ref f) [.ref M]) (SubEnd h₀ L m ((D, seqObj "list" items c) :: news) ⟨x.cps.extract (marksP x.cps) (endP x.cps)⟩ s)
        (fun e s' => R (.error e) s') { s with heap := h, toks := tk })
    (h : ∀ t' h' tk', Fr h₀ L h' m → News h₀ L h' news → R (.ok (.ret (.str (bareF x) t'))) { s with heap := h', toks := tk' }) :
    codeAny (model prog w) A (.builtin "re.Pattern.sub.loop" ⟨[.ref P, .str x t, .ref f, rawInt 1, rawInt 0, rawInt 0, rawInt 0, rawInt 0, .bool false, .ref D, .bool false], []⟩) R s := by
  have hlid : lidOf x.cps.size ≤ 2 ^ 60 := by
    unfold lidOf
    have : ((3 * x.cps.size + 3) * 16 + 9) * (x.cps.size + 1) ≤ ((3 * 1000000 + 3) * 16 + 9) * (1000000 + 1) := Nat.mul_le_mul (by omega) (by omega)
    omega
  have hs := @search_first x.cps hx (Classical.propDecidable _)
  by_cases hid : Id x.cps
  · rw [if_pos hid] at hs
    obtain ⟨i1, i2, i3, i4, i5⟩ := id hid
    have l1 := endP_le x.cps
    have l2 := firstP_le x.cps
    refine codeAny_builtin entry_loop ?_
    rw [Around.under_plainId plain_loop _]
    show wpAny _ A.in1 (reWholeTarget (.ref P) (.str x t) >>= _) _ _ _
    refine wpAny_bind (whole_wp (hp.keeps F.keep) ?_)
    dsimp only
    show wpAny _ A.in1 (reNextFound _ 0 false >>= _) _ _ _
    refine wpAny_bind (end_wp hs hlid (fun hn => by cases hn) (fun b p e mm hn q1 q2 q3 q4 q5 => ?_))
    cases hn
    dsimp only
    rw [q1, q2]
    have e00 : Int.toNat 0 = 0 := rfl
    rw [e00]
    have nD := N (D, seqObj "list" #[] c) (.head _)
    by_cases h0 : 0 < firstP x.cps - 6
    · rw [if_pos h0]
      refine wpAny_bind (slice_wp hx ?_)
      have s1 := Heap.SameBut.update s.heap D (Obj.mapSeq fun xs => xs.push (.str ⟨x.cps.extract 0 (firstP x.cps - 6)⟩ s.toks))
      obtain ⟨c2, hc2⟩ : ∃ c2, (s.heap.update D (Obj.mapSeq fun xs => xs.push (.str ⟨x.cps.extract 0 (firstP x.cps - 6)⟩ s.toks))).get? D = some (seqObj "list" (#[].push (.str ⟨x.cps.extract 0 (firstP x.cps - 6)⟩ s.toks)) c2) := ⟨_, get?_update_seq nD.1 _⟩
      have F1 := ksk_fr F s1 nD.2.1 nD.2.2
      have N1 : News h₀ L _ news := ksk_news (fun p hp => N p (.tail _ hp)) s1 (fun p hp => Nat.ne_of_lt (hnD p hp))
      refine wpAny_bind (wpAny_updateSeq nD.1 rfl ?_ (by simp [sizeLine_eq]) (by simp [sizeLine_eq]))
      dsimp only
      generalize s.heap.update D _ = h1 at F1 N1 hc2 s1
      refine half (items := [.str ⟨x.cps.extract 0 (firstP x.cps - 6)⟩ s.toks]) (c := c2) hid F1 (fun p hp => ?_) hnD hp hx (.cons _ _ .nil) (Or.inr rfl) q1 q2 q3 q4 q5 (turn hid) h
      rcases List.mem_cons.mp hp with rfl | hp
      · exact ⟨hc2, nD.2⟩
      · exact N1 p hp
    · rw [if_neg h0]
      exact half (items := []) (c := c) hid F N hnD hp hx .nil (Or.inl ⟨rfl, by omega⟩) q1 q2 q3 q4 q5 (turn hid) h
  · rw [if_neg hid] at hs
    refine loop_last (items := []) (ys := []) (n := 0) (done := 0) F N (fun p hp => Nat.ne_of_lt (hnD p hp)) hp .nil hx (by simp) (by simp) hs fun t' h' tk' F' N' => ?_
    have e : (Txt.join ⟨#[]⟩ ([] ++ if 0 < x.cps.size then [⟨x.cps.extract 0 x.cps.size⟩] else [])) = bareF x := by
      unfold bareF bareA
      rw [if_neg hid, List.nil_append]
      split
      · rw [join1]; simp
      · have : x.cps = #[] := by rw [← Array.size_eq_zero_iff]; omega
        rw [this]; rfl
    rw [e]
    exact h t' h' tk' F' N'
end
end Mine

end
section
open PySem PySem.W PyProof.Rows PySem.Builtin PySem.Builtin.Re
set_option maxRecDepth 100000
namespace Mine
section
variable {prog : Program} {w : World} {A : Around} {E : Value → Shared → Prop} {s : Shared} {h₀ : Heap} {L P f : Addr} {m : Str → Option Value} {news : List (Addr × Obj)} {x : Str} {t : Tok}

theorem meth_tree {T : String} {name : Str} {id : String} {b : Builtin} {self : Value} {rest : List Value} {Q : Value → Shared → Prop} (slot : Slot T name id) (hT : s.TypeIs self T) (hb : entryFor table id = some b) (ha : argsOk id ⟨self :: rest, []⟩)
    (hc : wpAny (model prog w) A.in1 (b ⟨self :: rest, []⟩) (fun fin s' => match fin with
      | .done f => (match (Except.ok f : Result) with | .ok (.ret v) => Q v s' | .ok _ => False | .error e => E e s')
      | .again c' => c'.quiet = true ∧ codeAny (model prog w) A c' (fun r s' => match r with | .ok (.ret v) => Q v s' | .ok _ => False | .error e => E e s') s') E s) :
    wpAny (model prog w) A (call (.builtin id) (self :: rest)) Q E s :=
  wpAny_call (codeAny_call_builtin slot.plain hb (slot.check _ _ _ _ _ _ _ _ hT ha hc))

theorem named_sub (a b : Value) : reNamed "re.Pattern.sub" "sub" ["repl", "string", "count"] 2 [a, b] [] = pure [some a, some b, none] := by
  unfold reNamed
  rfl

theorem PatAt.type {h : Heap} (hp : PatAt h P) : ∃ o, h.get? P = some o ∧ o.cls = .type "re.Pattern" ∧ o.dict = none := by
  obtain ⟨oP, fs, C, oC, items, n, h1, h2, h3, _⟩ := hp
  exact ⟨oP, h1, h2, h3⟩

theorem sub_K {Q : Value → Shared → Prop} (F : Fr h₀ L s.heap m) (N : News h₀ L s.heap news) (hp : PatAt h₀ P) (hf : s.TypeIs (.ref f) "function") (hx : x.cps.size ≤ 1000000)
    (turn : Id x.cps → ∀ (D : Addr) (h : Heap) (tk : Nat) (items : Array Value) (c : Nat) (li : Int) (T M : Addr), Fr h₀ L h m →
      News h₀ L h ((M, matchObj x t P x.cps.size li T) :: (T, spanObj (firstP x.cps - 6) (endP x.cps) (marksP x.cps)) :: (D, seqObj "list" items c) :: news) → (∀ p ∈ news, p.1 < D) → D < T → T < M →
      wpAny (model prog w) A.in1 (call (.ref f) [.ref M]) (SubEnd h₀ L m ((D, seqObj "list" items c) :: news) ⟨x.cps.extract (marksP x.cps) (endP x.cps)⟩ s)
        E { s with heap := h, toks := tk })
    (h : ∀ t' h' tk', Fr h₀ L h' m → News h₀ L h' news → Q (.str (bareF x) t') { s with heap := h', toks := tk' }) :
    wpAny (model prog w) A (call (.builtin "re.Pattern.sub") [.ref P, .ref f, .str x t]) Q E s := by
  obtain ⟨oP, o1, o2, o3⟩ := hp.type
  refine meth_tree slot_sub ⟨oP, F.keep _ _ o1, o2⟩ entry_sub (args_sub _ _ _) ?_
  show wpAny _ A.in1 (reNamed "re.Pattern.sub" "sub" ["repl", "string", "count"] 2 [.ref f, .str x t] [] >>= _) _ _ _
  rw [named_sub]
  refine wpAny_bind (wpAny_pure ?_)
  dsimp only
  obtain ⟨cid, hcid⟩ := fun_call
  refine wpAny_bind (wpAny_pure ?_)
  refine wpAny_bind (wpAny_specialOf hf hcid ?_)
  dsimp only [Option.isSome]
  rw [if_pos rfl]
  refine wpAny_bind (wpAny_pure ?_)
  rw [if_pos rfl]
  refine wpAny_bind (wpAny_pure ?_)
  dsimp only
  refine wpAny_bind (wpAny_holding (whole_wp (hp.keeps F.keep) ?_))
  rw [if_pos (by rfl)]
  refine wpAny_bind ?_
  unfold reNotHeld
  refine wpAny_bind (wpAny_isInstance (T := "str") rfl str_bytearray ?_)
  refine wpAny_pure ?_
  refine wpAny_bind (newList_N F N (fun h' F' N' => ?_) (by simp [sizeLine_eq]))
  refine wpAny_pure ⟨plainId_quiet plain_loop _, ?_⟩
  exact loop_first (s := { s with heap := h' }) (c := 0) F' N' (fun p hp => Heap.lt_size (N p hp).1) hp hx (fun hid => turn hid _) h

theorem sub_method {pl : Sem Bool} {M : Model} {Q : Value × List Value → Shared → Prop} (F : Fr h₀ L s.heap m) (hp : PatAt h₀ P) (h : Q (.builtin "re.Pattern.sub", [.ref P]) s) : wpAny M A (getMethod (.ref P) (Str.ofString "sub") pl) Q E s := by
  obtain ⟨oP, o1, o2, o3⟩ := hp.type
  exact getMethod_builtin ⟨oP, F.keep _ _ o1, o2⟩ attrs_pattern slot_sub type_sub (fun a e => by cases e; exact ⟨oP, F.keep _ _ o1, o3⟩) h

theorem group_method {pl : Sem Bool} {M : Model} {a T : Addr} {n : Nat} {li : Int} {Q : Value × List Value → Shared → Prop} (N : News h₀ L s.heap news) (hm : (a, matchObj x t P n li T) ∈ news) (h : Q (.builtin "re.Match.group", [.ref a]) s) : wpAny M A (getMethod (.ref a) (Str.ofString "group") pl) Q E s :=
  getMethod_builtin ⟨_, (N _ hm).1, rfl⟩ attrs_match slot_group type_group (fun b e => by cases e; exact ⟨_, (N _ hm).1, rfl⟩) h

theorem group_K {a T : Addr} {n b p e : Nat} {li : Int} {u : Tok} {Q : Value → Shared → Prop} (N : News h₀ L s.heap news) (hm : (a, matchObj x t P n li T) ∈ news) (hT : (T, spanObj b e p) ∈ news) (hx : x.cps.size ≤ 1000000)
    (h : Q (.str ⟨x.cps.extract p e⟩ s.toks) { s with toks := s.toks + 1 }) : wpAny (model prog w) A (call (.builtin "re.Match.group") [.ref a, .int 1 u]) Q E s := by
  refine meth_tree slot_group ⟨_, (N _ hm).1, rfl⟩ entry_group (args_group _ _) ?_
  show wpAny _ A.in1 (reFound (.ref a) >>= _) _ _ _
  unfold reFound
  refine wpAny_bind (wpAny_bind (wpAny_fieldsOf (N _ hm).1 rfl ?_))
  refine wpAny_bind (rawItems_wp (N _ hT).1 rfl (wpAny_pure ?_))
  have em : Array.map reRawOf #[rawInt (b : Int), rawInt (e : Int), rawInt (p : Int), rawInt (e : Int)] = #[(b : Int), (e : Int), (p : Int), (e : Int)] := by simp [reRawOf, rawInt]
  rw [em]
  show wpAny _ A.in1 (reGroupNumber _ (.int 1 u) >>= _) _ _ _
  refine wpAny_bind (wpAny_of_eq (a := 1) (by rfl) ?_)
  refine wpAny_bind ?_
  show wpAny _ A.in1 (reSlice x.cps 0 p e) _ _ _
  exact slice_wp hx (wpAny_pure h)
end
end Mine

end
section
open PySem PySem.W PyProof.Rows PySem.Calls
set_option maxRecDepth 100000
set_option maxHeartbeats 8000000
namespace Mine
theorem fr_keep {h₀ h h' : Heap} {L : Addr} {m : Str → Option Value} (F : Fr h₀ L h m) (hk : ∀ b o, h.get? b = some o → h'.get? b = some o) : Fr h₀ L h' m :=
  ⟨F.ns.keeps hk, fun b o e => hk b o (F.keep b o e), F.above⟩
theorem news_keep {h₀ h h' : Heap} {L : Addr} {news : List (Addr × Obj)} (N : News h₀ L h news) (hk : ∀ b o, h.get? b = some o → h'.get? b = some o) : News h₀ L h' news :=
  fun p hp => ⟨hk _ _ (N p hp).1, (N p hp).2⟩

def pieceF (x : Int) : Str :=
  if x.fmod 8 = 0 then Str.ofString " " ++ Txt.item (Str.ofString "aA") ((x.fdiv 8).fmod 2) ++ Txt.item (Str.ofString "tT") (((x.fdiv 8).fdiv 2).fmod 2) ++ Str.ofString " 0" ++ Txt.item (Str.ofString "xX") (((x.fdiv 8).fdiv 4).fmod 2)
  else if x.fmod 8 < 4 then
    Txt.mul (Txt.item (Str.ofString "0123456789abcdefABCDEF") ((x.fdiv 8).fmod 22)) (if x.fmod 8 = 1 then 1 else if x.fmod 8 = 2 then 5 else 6)
  else if x.fmod 8 = 4 then Txt.mul (Str.ofString ">") (1 + (x.fdiv 8).fmod 3)
  else if x.fmod 8 = 5 then Str.ofString "\n"
  else if x.fmod 8 = 6 then Txt.item (Str.ofString " at0xgG\r\u212a") ((x.fdiv 8).fmod 9)
  else if (x.fdiv 8).fmod 1112064 < 55296 then { cps := #[((x.fdiv 8).fmod 1112064).toNat] }
  else { cps := #[((x.fdiv 8).fmod 1112064 + 2048).toNat] }

theorem pure_ret {s : Shared} {g h' : Heap} {L' : Addr} {m' : Str → Option Value} {Q : Value → Shared → Prop} {y y' : Str} {t' : Tok} {tk' : Nat}
    (ret : ∀ t' h' tk', (∀ b o, s.heap.get? b = some o → h'.get? b = some o) → Q (.str y t') { s with heap := h', toks := tk' }) (GS : GSub s.heap g []) (F' : Fr g L' h' m') (e : y' = y) : Q (.str y' t') { s with heap := h', toks := tk' } := by
  subst e
  exact ret t' h' tk' fun b o q => F'.keep b o (GS b o q (by simp))

theorem piece_claim {w : World} {p : Program} {loose : List Str} {mean : ExcName → Option Value} {mg mb : Str → Option Value} {n : Int} {t : Tok} {A : Around} {env : Env} {outer : List Env} {A₀ : Around} {base h₀ : Heap} {L : Addr} {m : Str → Option Value} {s : Shared} {Q E : Value → Shared → Prop}
    (B : Below A₀ base outer h₀) (F : Fr h₀ L s.heap m) (X : (Mine.hd.heap_39 w.params).In h₀) (T : Top p loose mean mg mb h₀)
    (hA : A.frames = some (env :: outer)) (hf : env.frame = some L) (hke : env.scope.kind = .function) (hroom : A.depth < recursionLimit)
    (ret : ∀ t' h' tk', (∀ b o, s.heap.get? b = some o → h'.get? b = some o) → Q (.str (pieceF n) t') { s with heap := h', toks := tk' }) :
    wpAny (model PySem.Challenge.rw_mq0463_01.row.prog w) A (call (.ref 50) [.int n t]) Q E s := by
  w_top off
  revert X
  k_fill
  intro X
  refine wpAny_call ?_
  refine' code_defG B F X (News.nil) T hA hf hke ?k6 ?k7 hroom ?k9 ?kB ?_ ?c2 ?c3 ?c4 ?c5
  case k6 => k_is
  case k7 => k_is
  case k9 => exact BindsTo.of_eq rfl
  case kB => exact locs rfl
  case c5 => decide
  case c2 => exact rfl
  case c3 => exact rfl
  case c4 => exact rfl
  intro g' L' h' FG' F' N' B' X' T' GS'
  try dsimp only
  try k_lift B'
  clear FG'
  try k_fold
  k_steps
  all_goals (refine pure_ret (Q := Q) ret GS' (by with_reducible assumption) ?_)
  all_goals (unfold pieceF; (repeat' split) <;> first | rfl | (exfalso; omega))

theorem piece_use {w : World} {p : Program} {loose : List Str} {mean : ExcName → Option Value} {mg mb : Str → Option Value} {n : Int} {t : Tok} {A : Around} {env : Env} {outer : List Env} {A₀ : Around} {base h₀ : Heap} {L : Addr} {m : Str → Option Value} {news : List (Addr × Obj)} {s : Shared} {Q E : Value → Shared → Prop}
    (B : Below A₀ base outer h₀) (F : Fr h₀ L s.heap m) (X : (Mine.hd.heap_39 w.params).In h₀) (N : News h₀ L s.heap news) (T : Top p loose mean mg mb h₀)
    (hA : A.frames = some (env :: outer)) (hf : env.frame = some L) (hke : env.scope.kind = .function) (hroom : A.depth < recursionLimit)
    (ret : ∀ t' h' tk', Fr h₀ L h' m → News h₀ L h' news → Q (.str (pieceF n) t') { s with heap := h', toks := tk' }) :
    wpAny (model PySem.Challenge.rw_mq0463_01.row.prog w) A (call (.ref 50) [.int n t]) Q E s :=
  piece_claim B F X T hA hf hke hroom fun t' h' tk' K => ret t' h' tk' (fr_keep F K) (news_keep N K)

theorem item_len (x : Str) (i : Int) : (Txt.item x i).length = 1 := rfl
theorem mul_len {x : Str} {n : Int} (hx : x.length = 1) (hn : 1 ≤ n) : (Txt.mul x n).length = n.toNat := by
  unfold Txt.mul
  rw [if_neg (by omega)]
  split
  · rename_i h
    simp [hx] at h
    rw [hx, h]; rfl
  · show ((List.replicate n.toNat x.cps).foldl (· ++ ·) #[]).size = n.toNat
    have : ∀ (k : Nat) (a : Array Nat), ((List.replicate k x.cps).foldl (· ++ ·) a).size = a.size + k := by
      intro k
      induction k with
      | zero => intro a; rfl
      | succ k ih =>
        intro a
        rw [List.replicate_succ, List.foldl_cons, ih, Array.size_append]
        have : x.cps.size = 1 := hx
        omega
    rw [this]; simp
theorem piece_len (n : Int) : (pieceF n).length ≤ 6 := by
  unfold pieceF
  split
  · simp only [Str.length_append, item_len]
    decide +kernel
  · split
    · rw [mul_len (item_len _ _) (by split; omega; split <;> omega)]
      split
      · decide
      · split <;> decide
    · split
      · have h1 := fmod_lo (n.fdiv 8) (n := 3) (by decide)
        have h2 := fmod_hi (n.fdiv 8) (n := 3) (by decide)
        rw [mul_len (by decide +kernel) (by omega)]
        omega
      · split
        · decide +kernel
        · split
          · rw [item_len]; decide
          · split <;> (show (1 : Nat) ≤ 6; decide)
end Mine

end
section
open PySem PySem.W PyProof.Rows PySem.Calls
set_option maxRecDepth 100000
namespace Mine

theorem drop_take (t : Array Nat) (i j : Nat) : ((t.toList.drop i).take (j - i)).toArray = t.extract i j := by
  apply Array.toList_inj.mp
  simp

theorem slice_mid {x : Str} {i j : Int} (h0 : 0 ≤ i) (h1 : i ≤ j) (h2 : j ≤ x.length) : Txt.slice x (some i) (some j) = ⟨x.cps.extract i.toNat j.toNat⟩ := by
  rw [beq_iff_eq.mp (slice_closesL h0 h1 h2), ← drop_take, show (j - i).toNat = j.toNat - i.toNat by omega]
theorem slice_to {x : Str} {j : Int} (h0 : 0 ≤ j) (h2 : j ≤ x.length) : Txt.slice x none (some j) = ⟨x.cps.extract 0 j.toNat⟩ := by
  rw [beq_iff_eq.mp (slice_closes_toL h0 h2), ← drop_take, show (j - 0).toNat = j.toNat - 0 by omega, show (0 : Int).toNat = 0 from rfl]
theorem slice_from {x : Str} {i : Int} (h0 : 0 ≤ i) (h2 : i ≤ x.length) : Txt.slice x (some i) none = ⟨x.cps.extract i.toNat x.cps.size⟩ := by
  rw [beq_iff_eq.mp (slice_closes_fromL h0 h2 rfl), ← drop_take, show ((x.length : Int) - i).toNat = x.cps.size - i.toNat by have : x.length = x.cps.size := rfl; omega]

theorem feed_eq : Str.ofString "\n" = ⟨#[10]⟩ := by decide +kernel
theorem gt_eq : Str.ofString ">" = ⟨#[62]⟩ := by decide +kernel
theorem figs_eq : Str.ofString "0123456789abcdefABCDEF" = ⟨#[48, 49, 50, 51, 52, 53, 54, 55, 56, 57, 97, 98, 99, 100, 101, 102, 65, 66, 67, 68, 69, 70]⟩ := by decide +kernel

theorem last_feed {x : Str} : (Txt.slice x (some (-1)) none == Str.ofString "\n") = true ↔ (0 < x.cps.size ∧ x.cps.getD (x.cps.size - 1) 0 = 10) := by
  have hl : x.length = x.cps.size := rfl
  rw [beq_iff_eq, feed_eq]
  by_cases h : 0 < x.cps.size
  · have e := beq_iff_eq.mp (slice_closes_from_neg (x := x) (i := -1) (a := -1 + (x.length : Int)) (b := (x.length : Int)) (by decide) (by omega) rfl rfl)
    rw [e, show ((x.length : Int) - (-1 + (x.length : Int))).toNat = x.cps.size - (x.cps.size - 1) by omega, show (-1 + (x.length : Int)).toNat = x.cps.size - 1 by omega, drop_take]
    have e2 : x.cps.extract (x.cps.size - 1) x.cps.size = #[x.cps.getD (x.cps.size - 1) 0] := by
      apply Array.ext
      · rw [Array.size_extract]; simp; omega
      · intro i h1 h2
        have : i = 0 := by simp at h2; omega
        subst this
        rw [Array.getElem_extract, Array.getD_eq_getD_getElem?]
        simp [show x.cps.size - 1 < x.cps.size by omega]
    rw [e2]
    constructor
    · intro q
      refine ⟨h, ?_⟩
      have := congrArg Str.cps q
      simpa using this
    · rintro ⟨_, q⟩
      rw [q]
  · have : x.cps = #[] := by rw [← Array.size_eq_zero_iff]; omega
    obtain ⟨c⟩ := x
    simp only at this
    subst this
    constructor
    · intro q
      have : (Txt.slice ⟨#[]⟩ (some (-1)) none) ≠ (⟨#[10]⟩ : Str) := by decide +kernel
      exact absurd q this
    · rintro ⟨q, _⟩; exact absurd q h

theorem gt_item {x : Str} {i : Int} (h0 : 0 ≤ i) (h1 : i < x.length) : (Txt.item x i == Str.ofString ">") = (x.cps.getD i.toNat 0 == 62) := by
  rw [item_at h0 h1 rfl, gt_eq, Bool.eq_iff_iff, beq_iff_eq, beq_iff_eq]
  constructor
  · intro q; have := congrArg Str.cps q; simpa using this
  · intro q; rw [q]
theorem hex_item {x : Str} {i : Int} (h0 : 0 ≤ i) (h1 : i < x.length) :
    (!(Builtin.Str.occurrences (Str.ofString "0123456789abcdefABCDEF") (Txt.item x i) 0 (Str.ofString "0123456789abcdefABCDEF").length 1).isEmpty) = isHex (x.cps.getD i.toNat 0) := by
  rw [item_at h0 h1 rfl, StrLaws.found_one, figs_eq]
  generalize x.cps.getD i.toNat 0 = c
  rw [Bool.eq_iff_iff]
  simp only [decide_eq_true_eq, isHex, List.mem_cons, List.not_mem_nil, or_false, Bool.or_eq_true, Bool.and_eq_true]
  omega

/-- a loop that counts down, as the walk tells its end -/
theorem down_of {t : Array Nat} {q : Nat → Bool} {c : Int → Bool} {E K : Int} (hE : 0 ≤ E) (hc : ∀ j : Int, 0 < j → j ≤ E → c j = q (t.getD (j - 1).toNat 0))
    (h1 : K ≤ E) (h2 : min E 0 ≤ K) (h3 : ∀ j : Int, K < j → j ≤ E → (if 0 < j then (if c j = true then true else false) else false) = true) (h4 : (if 0 < K then (if c K = true then true else false) else false) = false) :
    K = (down q t E.toNat : Nat) := by
  have hK : 0 ≤ K := by omega
  have e : down q t E.toNat = K.toNat := by
    refine down_eq (by omega) (fun i hi1 hi2 => ?_) ?_
    · have := h3 ((i : Int) + 1) (by omega) (by omega)
      rw [if_pos (by omega)] at this
      have hcj := hc ((i : Int) + 1) (by omega) (by omega)
      rw [show ((i : Int) + 1 - 1).toNat = i by omega] at hcj
      rw [← hcj]
      cases hq : c ((i : Int) + 1) with
      | true => rfl
      | false => rw [hq] at this; simp at this
    · by_cases h0 : K = 0
      · left; omega
      · right
        rw [if_pos (by omega)] at h4
        have hcj := hc K (by omega) h1
        rw [show (K - 1).toNat = K.toNat - 1 by omega] at hcj
        rw [← hcj]
        cases hq : c K with
        | false => rfl
        | true => rw [hq] at h4; simp at h4
  rw [e]; omega

structure Tied (x : Str) (E0 K G : Int) : Prop where
  e : E0 = (endP x.cps : Nat)
  k : K = (marksP x.cps : Nat)
  g : G = (firstP x.cps : Nat)

theorem tie {x : Str} {K G E0 : Int}
    (hm3 : ∀ j : Int, K < j → j ≤ E0 → (if 0 < j then if (Txt.item x (j - 1) == Str.ofString ">") = true then true else false else false) = true)
    (hf3 : ∀ j : Int, G < j → j ≤ K → (if 0 < j then if (!(Builtin.Str.occurrences (Str.ofString "0123456789abcdefABCDEF") (Txt.item x (j - 1)) 0 (Str.ofString "0123456789abcdefABCDEF").length 1).isEmpty) = true then true else false else false) = true)
    (hm1 : K ≤ E0) (hm2 : min E0 0 ≤ K) (hm4 : (if 0 < K then if (Txt.item x (K - 1) == Str.ofString ">") = true then true else false else false) = false)
    (hf1 : G ≤ K) (hf2 : min K 0 ≤ G) (hf4 : (if 0 < G then if (!(Builtin.Str.occurrences (Str.ofString "0123456789abcdefABCDEF") (Txt.item x (G - 1)) 0 (Str.ofString "0123456789abcdefABCDEF").length 1).isEmpty) = true then true else false else false) = false)
    (he : (E0 = (x.length : Int) - 1 ∧ (Txt.slice x (some (-1)) none == Str.ofString "\n") = true) ∨ (E0 = (x.length : Int) ∧ ¬ (Txt.slice x (some (-1)) none == Str.ofString "\n") = true)) : Tied x E0 K G := by
  have hl : x.length = x.cps.size := rfl
  have e1 : E0 = (endP x.cps : Nat) := by
    unfold endP
    rcases he with ⟨h, q⟩ | ⟨h, q⟩
    · have q' := last_feed.mp q
      rw [if_pos q', h]; omega
    · rw [if_neg (fun q' => q (last_feed.mpr q')), h]; omega
  have l1 := endP_le x.cps
  have e2 : K = (marksP x.cps : Nat) := by
    have := down_of (t := x.cps) (q := (· == 62)) (c := fun j => Txt.item x (j - 1) == Str.ofString ">") (E := E0) (K := K) (by omega) (fun j h1 h2 => gt_item (by omega) (by omega)) hm1 hm2 hm3 hm4
    rw [this]
    unfold marksP
    rw [e1]; rfl
  have l2 := marksP_le x.cps
  refine ⟨e1, e2, ?_⟩
  have := down_of (t := x.cps) (q := isHex) (c := fun j => (!(Builtin.Str.occurrences (Str.ofString "0123456789abcdefABCDEF") (Txt.item x (j - 1)) 0 (Str.ofString "0123456789abcdefABCDEF").length 1).isEmpty)) (E := K) (K := G) (by omega) (fun j h1 h2 => hex_item (by omega) (by omega)) hf1 hf2 hf3 hf4
  rw [this]
  unfold firstP
  rw [e2]; rfl

theorem same_of_not {x : Str} (h : ¬ Id x.cps) : x = bareF x := by
  unfold bareF bareA
  rw [if_neg h]

theorem end_same {x : Str} {E0 K G : Int} (T : Tied x E0 K G) (h : K = E0 ∨ K - G < 6 ∨ 16 < K - G) : x = bareF x := by
  have := T.e
  have := T.k
  have := T.g
  have := firstP_le x.cps
  refine same_of_not fun ⟨h1, h2, h3, _⟩ => ?_
  omega

def headsC : List Str := [⟨#[32, 97, 116, 32, 48, 120]⟩, ⟨#[32, 65, 116, 32, 48, 120]⟩, ⟨#[32, 97, 84, 32, 48, 120]⟩, ⟨#[32, 65, 84, 32, 48, 120]⟩, ⟨#[32, 97, 116, 32, 48, 88]⟩, ⟨#[32, 65, 116, 32, 48, 88]⟩, ⟨#[32, 97, 84, 32, 48, 88]⟩, ⟨#[32, 65, 84, 32, 48, 88]⟩]

theorem six {t : Array Nat} {s : Nat} (h : s + 6 ≤ t.size) : t.extract s (s + 6) = #[t.getD s 0, t.getD (s + 1) 0, t.getD (s + 2) 0, t.getD (s + 3) 0, t.getD (s + 4) 0, t.getD (s + 5) 0] := by
  apply Array.ext
  · rw [Array.size_extract]; simp; omega
  · intro i h1 h2
    have h3 : i < 6 := by simpa using h2
    rw [Array.getElem_extract]
    have h4 : ∀ k, s + k < t.size → t.getD (s + k) 0 = t[s + k]! := fun k hk => by simp [Array.getD_eq_getD_getElem?, hk]
    have : i = 0 ∨ i = 1 ∨ i = 2 ∨ i = 3 ∨ i = 4 ∨ i = 5 := by omega
    rcases this with rfl | rfl | rfl | rfl | rfl | rfl <;> simp [Array.getD_eq_getD_getElem?, show s < t.size by omega, show s + 1 < t.size by omega, show s + 2 < t.size by omega, show s + 3 < t.size by omega, show s + 4 < t.size by omega, show s + 5 < t.size by omega]

theorem heads_any {t : Array Nat} {s : Nat} (h : s + 6 ≤ t.size) : headsC.any (fun y => y == ⟨t.extract s (s + 6)⟩) = true ↔ HeadAt t s := by
  rw [six h]
  unfold HeadAt headsC
  rw [lower_eq (d := 97) (by decide), lower_eq (d := 116) (by decide), lower_eq (d := 120) (by decide)]
  generalize t.getD s 0 = c0
  generalize t.getD (s + 1) 0 = c1
  generalize t.getD (s + 2) 0 = c2
  generalize t.getD (s + 3) 0 = c3
  generalize t.getD (s + 4) 0 = c4
  generalize t.getD (s + 5) 0 = c5
  simp only [List.any_cons, List.any_nil, Bool.or_false, Bool.or_eq_true, beq_iff_eq, Str.mk.injEq, Array.mk.injEq, List.cons.injEq, and_true]
  constructor
  · intro q
    refine ⟨h, ?_⟩
    rcases q with q | q | q | q | q | q | q | q <;> (obtain ⟨q0, q1, q2, q3, q4, q5⟩ := q; subst q0 q1 q2 q3 q4 q5; decide)
  · rintro ⟨_, q0, q1, q2, q3, q4, q5⟩
    have q1' : c1 = 97 ∨ c1 = 65 := by omega
    have q2' : c2 = 116 ∨ c2 = 84 := by omega
    have q5' : c5 = 120 ∨ c5 = 88 := by omega
    clear q1 q2 q5
    subst q0 q3 q4
    rcases q1' with rfl | rfl <;> rcases q2' with rfl | rfl <;> rcases q5' with rfl | rfl <;> decide

theorem heads_short {t : Array Nat} {a b : Nat} (h : b - a < 6) (hb : b ≤ t.size) : headsC.any (fun y => y == ⟨t.extract a b⟩) = false := by
  have hs : (t.extract a b).size < 6 := by rw [Array.size_extract]; omega
  generalize t.extract a b = v at hs
  unfold headsC
  simp only [List.any_cons, List.any_nil, Bool.or_false, Bool.or_eq_false_iff, beq_eq_false_iff_ne, ne_eq]
  refine ⟨?_, ?_, ?_, ?_, ?_, ?_, ?_, ?_⟩ <;> (intro q; have := congrArg (fun y : Str => y.cps.size) q; simp at this; omega)

theorem heads_id {x : Str} {E0 K G : Int} (T : Tied x E0 K G) (h1 : K ≠ E0) (h2 : ¬ K - G < 6) (h3 : ¬ 16 < K - G) :
    headsC.any (fun y => y == Txt.slice x (some (if G - 6 > 0 then G - 6 else 0)) (some G)) = true ↔ Id x.cps := by
  have e := T.e
  have k := T.k
  have g := T.g
  have l1 := endP_le x.cps
  have l2 := marksP_le x.cps
  have l3 := firstP_le x.cps
  have hl : x.length = x.cps.size := rfl
  by_cases h6 : 6 ≤ firstP x.cps
  · rw [slice_mid (by split <;> omega) (by split <;> omega) (by omega)]
    have ea : (if G - 6 > 0 then G - 6 else 0).toNat = firstP x.cps - 6 := by split <;> omega
    have eb : G.toNat = (firstP x.cps - 6) + 6 := by omega
    rw [ea, eb, heads_any (by omega)]
    constructor
    · intro q; exact ⟨by omega, by omega, by omega, h6, q⟩
    · rintro ⟨_, _, _, _, q⟩; exact q
  · rw [slice_mid (by split <;> omega) (by split <;> omega) (by omega), heads_short (by split <;> omega) (by omega)]
    constructor
    · intro q; cases q
    · rintro ⟨_, _, _, q, _⟩; omega

theorem end_cut {x : Str} {E0 K G : Int} (T : Tied x E0 K G) (h1 : K ≠ E0) (h2 : ¬ K - G < 6) (h3 : ¬ 16 < K - G)
    (hany : headsC.any (fun y => y == Txt.slice x (some (if G - 6 > 0 then G - 6 else 0)) (some G)) = true) : Txt.slice x none (some (G - 6)) ++ Txt.slice x (some K) none = bareF x := by
  have hid := (heads_id T h1 h2 h3).mp hany
  have e := T.e
  have k := T.k
  have g := T.g
  have l1 := endP_le x.cps
  have l2 := marksP_le x.cps
  have l3 := firstP_le x.cps
  have hl : x.length = x.cps.size := rfl
  have h6 := hid.2.2.2.1
  rw [slice_to (by omega) (by omega), slice_from (by omega) (by omega)]
  apply Str.ext'
  rw [Str.cps_append]
  unfold bareF bareA
  rw [if_pos hid, show (G - 6).toNat = firstP x.cps - 6 by omega, show K.toNat = marksP x.cps by omega]
theorem end_not {x : Str} {E0 K G : Int} (T : Tied x E0 K G) (h1 : K ≠ E0) (h2 : ¬ K - G < 6) (h3 : ¬ 16 < K - G)
    (hany : ¬ headsC.any (fun y => y == Txt.slice x (some (if G - 6 > 0 then G - 6 else 0)) (some G)) = true) : x = bareF x :=
  same_of_not fun q => hany ((heads_id T h1 h2 h3).mpr q)
end Mine

end
section
open PySem PySem.W PyProof.Rows PySem.Calls
set_option maxRecDepth 100000
set_option maxHeartbeats 8000000
namespace Mine
theorem pat_at {w : World} {h : Heap} (X : (Mine.hd.heap_39 w.params).In h) : PatAt h 36 := by
  refine ⟨_, _, 35, _, _, 0, X 36 _ rfl, rfl, rfl, rfl, rfl, rfl, rfl, X 35 _ rfl, rfl, ?_⟩
  simp [Builtin.Re.reRawOf, rcode]

local macro_rules | `(tactic| walk_at "getMethod ref") => `(tactic| (k_here; k_dflt (refine' Mine.sub_method ?F ?p ?_; (case F => k_asm); (case p => exact Mine.pat_at (by k_asm)); k_whole)))
local macro_rules | `(tactic| walk_at "getMethod ref") => `(tactic| (k_here; k_dflt (refine' Mine.group_method ?N ?m ?_; (case N => k_asm); (case m => k_mem); k_whole)))

local macro_rules | `(tactic| walk_at "call builtin:re.Match.group") => `(tactic| (k_here; k_dflt (refine' Mine.group_K ?N ?m ?T ?x ?_; (case N => k_asm); (case m => k_mem); (case T => k_mem); (case x => first | assumption | (refine Nat.le_trans ?_ (Nat.le_of_ble_eq_true (rfl : Nat.ble 1000 1000000 = true)); assumption)); k_whole)))

theorem grp_pos {x : Str} (h : Id x.cps) : 1 ≤ (⟨x.cps.extract (marksP x.cps) (endP x.cps)⟩ : Str).length := by
  show 1 ≤ (x.cps.extract (marksP x.cps) (endP x.cps)).size
  have := h.1
  have := endP_le x.cps
  rw [Array.size_extract]; omega
theorem grp_len {x : Str} (h : x.cps.size ≤ 1000) : (⟨x.cps.extract (marksP x.cps) (endP x.cps)⟩ : Str).length ≤ 1000 := by
  show (x.cps.extract (marksP x.cps) (endP x.cps)).size ≤ 1000
  rw [Array.size_extract]; omega
local macro_rules | `(tactic| walk_at "truthy str") => `(tactic| (k_here; k_dflt (refine' KXt.truthy_pos (K := 1000) ?a ?b ?c ?_; (case a => assumption); (case b => assumption); (case c => exact Nat.le_of_ble_eq_true rfl)); intro _))

theorem strip_first {w : World} {p : Program} {loose : List Str} {mean : ExcName → Option Value} {mg mb : Str → Option Value} {x : Str} {t : Tok} {env : Env} {A₀ : Around} {base h₀ : Heap} {L : Addr} {m : Str → Option Value} {s : Shared} {Q E : Value → Shared → Prop}
    (hx : x.cps.size ≤ 1000) (B : Below A₀ base [] h₀) (F : Fr h₀ L s.heap m) (X : (Mine.hd.heap_39 w.params).In h₀) (T : Top p loose mean mg mb h₀) (C : CodeHd base 42 38) (N : News h₀ L s.heap [(38, tabObj #[])])
    (hf : env.frame = some L) (hke : env.scope.kind = .function)
    (ret : ∀ t' h' tk' f' of c' oc vs tq, Fr h₀ L h' m → News h₀ L h' [(f', of), (c', oc), (38, tabObj #[rawInt 5, rawInt 27, .ref c'])] → (∀ b o, b ≠ 38 → s.heap.get? b = some o → h'.get? b = some o) → oc.data = .fields vs → vs[1]? = some (.str (Str.ofString "stripid.<locals>.<lambda>") tq) → @LT.lt Nat _ 38 c' → (∀ b o, b ≠ 38 → s.heap.get? b = some o → b ≠ c') →
      Q (.str (bareF x) t') { s with heap := h', toks := tk' }) :
    wpAny (model PySem.Challenge.rw_mq0463_01.row.prog w) (callerA.deeper env) (call (.ref 43) [.str x t]) Q E s := by
  w_top off
  revert X
  k_fill
  intro X
  refine wpAny_call ?_
  refine' code_defG B F X N T rfl hf hke ?k6 ?k7 ?k8 ?k9 ?kB ?_ ?c2 ?c3 ?c4 ?c5
  case k6 => k_is
  case k7 => k_is
  case k8 => k_room
  case k9 => exact BindsTo.of_eq rfl
  case kB => exact locs rfl
  case c5 => decide
  case c2 => exact rfl
  case c3 => exact rfl
  case c4 => exact rfl
  intro g' L' h' FG' F' N' B' X' T' GS'
  try dsimp only
  try k_lift B'
  clear FG'
  try k_fold
  k_steps
  refine' sub_K ?F ?N ?p ?f ?x ?turn ?_
  case F => k_asm
  case N => k_asm
  case p => exact Mine.pat_at (by k_asm)
  case f => exact ⟨_, (News.get (by k_asm) (by k_mem)), rfl⟩
  case x => omega
  case turn =>
    intro hid D h tk items c li T M F N lD lT lM
    (try k_lt lD)
    have hgl := grp_len hx
    have hgp := grp_pos hid
    show wpAny _ _ (call _ _) _ _ _
    k_fold
    k_steps
    all_goals (refine SubEnd.intro ?_ (by k_asm) (by k_asm) ?_)
    · exact PySem.Str.ext' (by rw [PySem.Str.cps_append]; exact Array.empty_append)
    · kcj_all
  intro t9 h9 tk9 F9 N9
  refine leaveK_ (h₀ := h₀) (L := L) (m := m) F9 N9 fun kF kN => ?_
  refine ret _ _ _ _ _ _ _ _ _ kF kN (fun b o hb e => F9.keep b o (GS' b o e (by simpa using hb))) (by assumption) (by assumption) (by assumption) (fun b o hb e q => ?_)
  have q1 := GS' b o e (by simpa using hb)
  have q2 := News.fresh N9 (List.Mem.tail _ (List.Mem.head _))
  rw [q, q2] at q1
  cases q1
end Mine

end
section
open PySem PySem.W PyProof.Rows PySem.Calls
set_option maxRecDepth 100000
set_option maxHeartbeats 8000000
namespace Mine
theorem pat_at2 {w : World} {h : Heap} (X : (Mine.hd.heap_39 w.params).In h) : PatAt h 36 := by
  refine ⟨_, _, 35, _, _, 0, X 36 _ rfl, rfl, rfl, rfl, rfl, rfl, rfl, X 35 _ rfl, rfl, ?_⟩
  simp [Builtin.Re.reRawOf, rcode]

local macro_rules | `(tactic| walk_at "getMethod ref") => `(tactic| (k_here; k_dflt (refine' Mine.sub_method ?F ?p ?_; (case F => k_asm); (case p => exact Mine.pat_at2 (by k_asm)); k_whole)))
local macro_rules | `(tactic| walk_at "getMethod ref") => `(tactic| (k_here; k_dflt (refine' Mine.group_method ?N ?m ?_; (case N => k_asm); (case m => k_mem); k_whole)))

local macro_rules | `(tactic| walk_at "call builtin:re.Match.group") => `(tactic| (k_here; k_dflt (refine' Mine.group_K ?N ?m ?T ?x ?_; (case N => k_asm); (case m => k_mem); (case T => k_mem); (case x => first | assumption | (refine Nat.le_trans ?_ (Nat.le_of_ble_eq_true (rfl : Nat.ble 1000 1000000 = true)); assumption)); k_whole)))

theorem grp_pos2 {x : Str} (h : Id x.cps) : 1 ≤ (⟨x.cps.extract (marksP x.cps) (endP x.cps)⟩ : Str).length := by
  show 1 ≤ (x.cps.extract (marksP x.cps) (endP x.cps)).size
  have := h.1
  have := endP_le x.cps
  rw [Array.size_extract]; omega
theorem grp_len2 {x : Str} (h : x.cps.size ≤ 1000) : (⟨x.cps.extract (marksP x.cps) (endP x.cps)⟩ : Str).length ≤ 1000 := by
  show (x.cps.extract (marksP x.cps) (endP x.cps)).size ≤ 1000
  rw [Array.size_extract]; omega
local macro_rules | `(tactic| walk_at "truthy str") => `(tactic| (k_here; k_dflt (refine' KXt.truthy_pos (K := 1000) ?a ?b ?c ?_; (case a => assumption); (case b => assumption); (case c => exact Nat.le_of_ble_eq_true rfl)); intro _))

theorem strip_next {w : World} {p : Program} {loose : List Str} {mean : ExcName → Option Value} {mg mb : Str → Option Value} {x : Str} {t : Tok} {env : Env} {A₀ : Around} {base h₀ : Heap} {L : Addr} {m : Str → Option Value} {s : Shared} {Q E : Value → Shared → Prop} {c' : Addr} {oc : Obj} {vs : Array Value} {tq : Tok}
    (hx : x.cps.size ≤ 1000) (B : Below A₀ base [] h₀) (F : Fr h₀ L s.heap m) (X : (Mine.hd.heap_39 w.params).In h₀) (T : Top p loose mean mg mb h₀) (C : CodeHd base 42 38) (N : News h₀ L s.heap [(c', oc), (38, tabObj #[rawInt 5, rawInt 27, .ref c'])]) (hc1 : oc.data = .fields vs) (hc2 : vs[1]? = some (.str (Str.ofString "stripid.<locals>.<lambda>") tq)) (hc3 : @LT.lt Nat _ 38 c')
    (hf : env.frame = some L) (hke : env.scope.kind = .function)
    (ret : ∀ t' h' tk', (∀ b o, s.heap.get? b = some o → h'.get? b = some o) →
      Q (.str (bareF x) t') { s with heap := h', toks := tk' }) :
    wpAny (model PySem.Challenge.rw_mq0463_01.row.prog w) (callerA.deeper env) (call (.ref 43) [.str x t]) Q E s := by
  w_top off
  revert X
  k_fill
  intro X
  refine wpAny_call ?_
  refine' code_defG B F X N T rfl hf hke ?k6 ?k7 ?k8 ?k9 ?kB ?_ ?c2 ?c3 ?c4 ?c5
  case k6 => k_is
  case k7 => k_is
  case k8 => k_room
  case k9 => exact BindsTo.of_eq rfl
  case kB => exact locs rfl
  case c5 => decide
  case c2 => exact rfl
  case c3 => exact rfl
  case c4 => exact rfl
  intro g' L' h' FG' F' N' B' X' T' GS'
  try dsimp only
  try k_lift B'
  clear FG'
  try k_fold
  k_steps
  refine' sub_K ?F ?N ?p ?f ?x ?turn ?_
  case F => k_asm
  case N => k_asm
  case p => exact Mine.pat_at2 (by k_asm)
  case f => exact ⟨_, (News.get (by k_asm) (by k_mem)), rfl⟩
  case x => omega
  case turn =>
    intro hid D h tk items c li T M F N lD lT lM
    (try k_lt lD)
    have hgl := grp_len2 hx
    have hgp := grp_pos2 hid
    show wpAny _ _ (call _ _) _ _ _
    k_fold
    k_steps
    all_goals (refine SubEnd.intro ?_ (by k_asm) (by k_asm) ?_)
    · exact PySem.Str.ext' (by rw [PySem.Str.cps_append]; exact Array.empty_append)
    · kcj_all
  intro t9 h9 tk9 F9 N9
  refine leaveK_ (h₀ := h₀) (L := L) (m := m) F9 N9 fun kF kN => ?_
  have k1 := (kN (c', oc) (by k_mem)).1
  have k2 := (kN (38, tabObj #[rawInt 5, rawInt 27, .ref c']) (by k_mem)).1
  refine ret _ _ _ (fun b o e => ?_)
  by_cases hb1 : b = c'
  · subst hb1; rw [(N (b, oc) (by k_mem)).1] at e; cases e; exact k1
  · by_cases hb2 : b = 38
    · subst hb2; rw [(N (38, tabObj #[rawInt 5, rawInt 27, .ref c']) (by k_mem)).1] at e; cases e; exact k2
    · exact F9.keep b o (GS' b o e (by simp; exact ⟨hb1, hb2⟩))

end Mine

end
section
open PySem PySem.W PyProof.Rows PySem.Calls
set_option maxRecDepth 100000
set_option maxHeartbeats 8000000
namespace Mine

theorem any_true {l : List Str} {f : Str → Bool} (h : l.any f = true) (e : l = headsC) : headsC.any f = true := e ▸ h
theorem any_false {l : List Str} {f : Str → Bool} (h : l.any f = false) (e : l = headsC) : ¬ headsC.any f = true := by subst e; rw [h]; exact Bool.false_ne_true
theorem feed_true {x : Str} {E0 : Int} (e : E0 = (x.length : Int) - 1) (h : (Txt.slice x (some (-1)) none == Str.ofString "\n") = true) :
    (E0 = (x.length : Int) - 1 ∧ (Txt.slice x (some (-1)) none == Str.ofString "\n") = true) ∨ (E0 = (x.length : Int) ∧ ¬ (Txt.slice x (some (-1)) none == Str.ofString "\n") = true) := Or.inl ⟨e, h⟩
theorem feed_false {x : Str} {E0 : Int} (e : E0 = (x.length : Int)) (h : (Txt.slice x (some (-1)) none == Str.ofString "\n") = false) :
    (E0 = (x.length : Int) - 1 ∧ (Txt.slice x (some (-1)) none == Str.ofString "\n") = true) ∨ (E0 = (x.length : Int) ∧ ¬ (Txt.slice x (some (-1)) none == Str.ofString "\n") = true) := Or.inr ⟨e, by rw [h]; exact Bool.false_ne_true⟩

local macro_rules | `(tactic| walk_at "call ref") => `(tactic| (k_here; k_dflt (refine' Mine.piece_use ?B ?F ?X ?N ?T ?hA ?hf ?hke ?room ?_; (case hA => exact rfl); (case hf => exact rfl); (case hke => exact rfl); (case B => k_asm); (case F => k_asm); (case X => k_asm); (case N => k_asm); (case T => k_asm); (case room => k_room); k_whole); intro t9 h9 tk9 F9 N9; (try dsimp only); (try k_fold)))

theorem bare_claim {w : World} {p : Program} {loose : List Str} {mean : ExcName → Option Value} {mg mb : Str → Option Value} {x : Str} {t : Tok} {env : Env} {A₀ : Around} {base h₀ : Heap} {L : Addr} {m : Str → Option Value} {s : Shared} {Q E : Value → Shared → Prop}
    (hx : x.length ≤ 1000) (B : Below A₀ base [] h₀) (F : Fr h₀ L s.heap m) (X : (Mine.hd.heap_39 w.params).In h₀) (T : Top p loose mean mg mb h₀) 
    (hf : env.frame = some L) (hke : env.scope.kind = .function)
    (ret : ∀ t' h' tk', (∀ b o, s.heap.get? b = some o → h'.get? b = some o) → Q (.str (bareF x) t') { s with heap := h', toks := tk' }) :
    wpAny (model PySem.Challenge.rw_mq0463_01.row.prog w) (callerA.deeper env) (call (.ref 55) [.str x t]) Q E s := by
  w_top off
  revert X
  k_fill
  intro X
  refine wpAny_call ?_
  refine' code_defG B F X (News.nil) T rfl hf hke ?k6 ?k7 ?k8 ?k9 ?kB ?_ ?c2 ?c3 ?c4 ?c5
  case k6 => k_is
  case k7 => k_is
  case k8 => k_room
  case k9 => exact BindsTo.of_eq rfl
  case kB => exact locs rfl
  case c5 => decide
  case c2 => exact rfl
  case c3 => exact rfl
  case c4 => exact rfl
  intro g' L' h' FG' F' N' B' X' T' GS'
  try dsimp only
  try k_lift B'
  clear FG'
  try k_fold
  k_steps
  all_goals (refine pure_ret (Q := Q) ret GS' (by with_reducible assumption) ?_)
  all_goals (have T9 := tie (x := x) (by with_reducible assumption) (by with_reducible assumption) (by with_reducible assumption) (by with_reducible assumption) (by with_reducible assumption) (by with_reducible assumption) (by with_reducible assumption) (by with_reducible assumption) (by first | exact feed_true rfl (by with_reducible assumption) | exact feed_false rfl (by with_reducible assumption)))
  all_goals first
    | exact end_same T9 (Or.inl (by with_reducible assumption))
    | exact end_same T9 (Or.inr (Or.inl (by with_reducible assumption)))
    | exact end_same T9 (Or.inr (Or.inr (by with_reducible assumption)))
    | exact end_cut T9 (by with_reducible assumption) (by with_reducible assumption) (by with_reducible assumption) (any_true (by with_reducible assumption) (by decide +kernel))
    | exact end_not T9 (by with_reducible assumption) (by with_reducible assumption) (by with_reducible assumption) (any_false (by with_reducible assumption) (by decide +kernel))

end Mine

end
section
open PySem PySem.W PyProof.Rows PySem.Calls
set_option maxRecDepth 100000
namespace Mine
section
variable {w : World} {p : Program} {loose : List Str} {mean : ExcName → Option Value} {mg mb : Str → Option Value} {x : Str} {t : Tok} {env : Env} {A₀ : Around} {base h₀ : Heap} {L : Addr} {m : Str → Option Value} {s : Shared} {Q E : Value → Shared → Prop} {news : List (Addr × Obj)}

theorem bare_use (hx : x.length ≤ 1000) (B : Below A₀ base [] h₀) (F : Fr h₀ L s.heap m) (X : (Mine.hd.heap_39 w.params).In h₀) (N : News h₀ L s.heap news) (T : Top p loose mean mg mb h₀) (hf : env.frame = some L) (hke : env.scope.kind = .function)
    (ret : ∀ t' h' tk', Fr h₀ L h' m → News h₀ L h' news → Q (.str (bareF x) t') { s with heap := h', toks := tk' }) :
    wpAny (model PySem.Challenge.rw_mq0463_01.row.prog w) (callerA.deeper env) (call (.ref 55) [.str x t]) Q E s :=
  bare_claim hx B F X T hf hke fun t' h' tk' K => ret t' h' tk' (fr_keep F K) (news_keep N K)

theorem next_use {c' : Addr} {oc : Obj} {vs : Array Value} {tq : Tok} (hx : x.length ≤ 1000) (B : Below A₀ base [] h₀) (F : Fr h₀ L s.heap m) (X : (Mine.hd.heap_39 w.params).In h₀) (N : News h₀ L s.heap news) (T : Top p loose mean mg mb h₀) (C : CodeHd base 42 38)
    (m2 : (38, tabObj #[rawInt 5, rawInt 27, .ref c']) ∈ news) (m1 : (c', oc) ∈ news) (hc1 : oc.data = .fields vs) (hc2 : vs[1]? = some (.str (Str.ofString "stripid.<locals>.<lambda>") tq)) (hc3 : @LT.lt Nat _ 38 c') (hf : env.frame = some L) (hke : env.scope.kind = .function)
    (ret : ∀ t' h' tk', Fr h₀ L h' m → News h₀ L h' news → Q (.str (bareF x) t') { s with heap := h', toks := tk' }) :
    wpAny (model PySem.Challenge.rw_mq0463_01.row.prog w) (callerA.deeper env) (call (.ref 43) [.str x t]) Q E s :=
  strip_next hx B F X T C (fun q hq => by
    rcases List.mem_cons.mp hq with rfl | hq
    · exact N _ m1
    · rw [List.mem_singleton.mp hq]; exact N _ m2) hc1 hc2 hc3 hf hke fun t' h' tk' K => ret t' h' tk' (fr_keep F K) (news_keep N K)

theorem first_use {g : Obj → List (Addr × Obj)} (hx : x.length ≤ 1000) (B : Below A₀ base [] h₀) (F : Fr h₀ L s.heap m) (X : (Mine.hd.heap_39 w.params).In h₀) (N : News h₀ L s.heap news) (T : Top p loose mean mg mb h₀) (C : CodeHd base 42 38)
    (U : UpdF 38 (tabObj #[]) news g) (hf : env.frame = some L) (hke : env.scope.kind = .function)
    (ret : ∀ t' h' tk' c' oc vs tq, Fr h₀ L h' m → News h₀ L h' ((c', oc) :: g (tabObj #[rawInt 5, rawInt 27, .ref c'])) → oc.data = .fields vs → vs[1]? = some (.str (Str.ofString "stripid.<locals>.<lambda>") tq) → @LT.lt Nat _ 38 c' → Q (.str (bareF x) t') { s with heap := h', toks := tk' }) :
    wpAny (model PySem.Challenge.rw_mq0463_01.row.prog w) (callerA.deeper env) (call (.ref 43) [.str x t]) Q E s := by
  obtain ⟨own, rest, rfl, hg, h1, h2⟩ := U.split
  refine strip_first hx B F X T C (fun q hq => by rw [List.mem_singleton.mp hq]; exact N _ (List.mem_append_right _ (.head _))) hf hke fun t' h' tk' f' of c' oc vs tq F' N' K d1 d2 l38 _ => ?_
  refine ret t' h' tk' c' oc vs tq F' (fun q hq => ?_) d1 d2 l38
  rcases List.mem_cons.mp hq with rfl | hq
  · exact N' _ (.tail _ (.head _))
  · rw [hg] at hq
    rcases List.mem_append.mp hq with hq | hq
    · have n := N q (List.mem_append_left _ hq)
      exact ⟨K _ _ (h1 q hq) n.1, n.2⟩
    · rcases List.mem_cons.mp hq with rfl | hq
      · exact N' _ (.tail _ (.tail _ (.head _)))
      · have n := N q (List.mem_append_right _ (.tail _ hq))
        exact ⟨K _ _ (h2 q hq) n.1, n.2⟩
end

theorem join_len (l : List Int) : (Txt.join (Str.ofString "") (l.map pieceF)).length ≤ 6 * l.length := by
  show (Builtin.Str.glued (Str.ofString "") (l.map pieceF)).length ≤ _
  rw [StrLaws.glued_eq_join]
  refine Nat.le_trans (StrLaws.join_length_le _ _) ?_
  have z : (Str.ofString "").length = 0 := by decide
  rw [z, Nat.mul_zero, Nat.add_zero]
  induction l with
  | nil => simp
  | cons a l ih =>
    simp only [List.map_cons, List.sum_cons, List.length_cons]
    have := piece_len a
    omega

section
variable {prog : Program} {w : World} {A : Around} {E : Value → Shared → Prop} {s : Shared} {t u : Tok} {Q : Value → Shared → Prop} {D : Addr} {ys : List Value}
/-- the drawn text: of its make only the length is kept -/
theorem join_pieces {l : List Int} (hl : s.heap.IsList D ys.toArray) (hc : CarriedAll ys (l.map fun a => PyData.str (pieceF a))) (hn : l.length ≤ 12)
    (h : ∀ (z : Str) t' k, z.length ≤ 1000 → z.length ≤ 72 → Q (.str z t') { s with toks := k }) : wpAny (model prog w) A (call (.builtin "str.join") [.str (Str.ofString "") t, .ref D]) Q E s :=
  KT.join_B 6 hl hc (fun a _ => piece_len a) (by omega) (by decide) fun t' k => h _ t' k (by have := join_len l; omega) (by have := join_len l; omega)
theorem join_figs {l : List Int} {g : Int → Str} (hl : s.heap.IsList D ys.toArray) (hc : CarriedAll ys (l.map fun a => PyData.str (g a))) (h1 : ∀ a ∈ l, (g a).length = 1) (hn : l.length ≤ 17)
    (h : ∀ (z : Str) t' k, z.length ≤ 17 → Q (.str z t') { s with toks := k }) : wpAny (model prog w) A (call (.builtin "str.join") [.str (Str.ofString "") t, .ref D]) Q E s :=
  KT.join_1 hl hc h1 (by omega) fun t' k e => h _ t' k (by omega)
theorem add_any {x y : Str} {K L : Nat} (hx : x.length ≤ K) (hy : y.length ≤ L) (hs : K + L ≤ 900) (h : ∀ (z : Str) t' k, z.length ≤ K + L → Q (.str z t') { s with toks := k }) : wpAny (model prog w) A (binaryOp .Add (.str x t) (.str y u)) Q E s :=
  KXadd.add hx hy (by omega) fun t' k e => h _ t' k (by omega)
theorem add_tail {x y : Str} {K : Nat} (hy : y.length ≤ 2) (hx : x.length ≤ K) (hs : K ≤ 900) (h : ∀ t' k, (x ++ y).length ≤ 1000 → Q (.str (x ++ y) t') { s with toks := k }) : wpAny (model prog w) A (binaryOp .Add (.str x t) (.str y u)) Q E s :=
  KXadd.add hx hy (by omega) fun t' k e => h t' k (by omega)
theorem mul_gt {k : Int} (h : ∀ (z : Str) t' k, z.length ≤ 3 → Q (.str z t') { s with toks := k }) : wpAny (model prog w) A (binaryOp .Mult (.str (Str.ofString ">") t) (.int (1 + k.fmod 3) u)) Q E s := by
  have h1 := fmod_lo k (n := 3) (by decide)
  have h2 := fmod_hi k (n := 3) (by decide)
  refine SB.mul (mulOk_of 16 16 (by decide +kernel) (by omega) (by omega) (by decide) (by decide)) fun t' k' => h _ t' k' ?_
  rw [mul_len (by decide +kernel) (by omega)]; omega
end

theorem piece_use6 {w : World} {p : Program} {loose : List Str} {mean : ExcName → Option Value} {mg mb : Str → Option Value} {n : Int} {t : Tok} {A : Around} {env : Env} {outer : List Env} {A₀ : Around} {base h₀ : Heap} {L : Addr} {m : Str → Option Value} {news : List (Addr × Obj)} {s : Shared} {Q E : Value → Shared → Prop}
    (B : Below A₀ base outer h₀) (F : Fr h₀ L s.heap m) (X : (Mine.hd.heap_39 w.params).In h₀) (N : News h₀ L s.heap news) (T : Top p loose mean mg mb h₀)
    (hA : A.frames = some (env :: outer)) (hf : env.frame = some L) (hke : env.scope.kind = .function) (hroom : A.depth < recursionLimit)
    (ret : ∀ t' h' tk', Fr h₀ L h' m → News h₀ L h' news → (pieceF n).length ≤ 6 → Q (.str (pieceF n) t') { s with heap := h', toks := tk' }) :
    wpAny (model PySem.Challenge.rw_mq0463_01.row.prog w) A (call (.ref 50) [.int n t]) Q E s :=
  piece_use B F X N T hA hf hke hroom fun t' h' tk' F' N' => ret t' h' tk' F' N' (piece_len n)
end Mine

end
section
open PySem PySem.W PyProof.Rows PySem.Calls
set_option maxRecDepth 100000
set_option maxHeartbeats 8000000
namespace Mine
def lawDef : List Stmt → List Stmt
  | .FunctionDef _ _ b _ _ _ _ _ _ _ :: _ => b
  | _ => []
def scopeDef (d : Scope) : List Stmt → Scope
  | .FunctionDef _ _ _ _ _ _ sc _ _ _ :: _ => sc
  | _ => d
def forDef : List Stmt → List Stmt
  | .For _ _ b _ _ :: _ => b
  | _ => []
def turnBody : List Stmt := forDef ((lawDef (PySem.Challenge.pw_mq0463_01.main.body.drop 7)).drop 3)
def ifBody : List Stmt := forDef (turnBody.drop 2)
def lawScope : Scope := scopeDef PySem.Challenge.pw_mq0463_01.main.scope (PySem.Challenge.pw_mq0463_01.main.body.drop 7)

theorem ne_self (z : Str) : ¬ (z != z) = true := by simp
theorem keep_trans {h1 h2 h3 : Heap} (a : ∀ b o, h1.get? b = some o → h2.get? b = some o) (c : ∀ b o, h2.get? b = some o → h3.get? b = some o) : ∀ b o, h1.get? b = some o → h3.get? b = some o := fun b o e => c b o (a b o e)

theorem next_useK {w : World} {p : Program} {loose : List Str} {mean : ExcName → Option Value} {mg mb : Str → Option Value} {x : Str} {t : Tok} {env : Env} {A₀ : Around} {base h₀ : Heap} {L : Addr} {m : Str → Option Value} {s : Shared} {Q E : Value → Shared → Prop} {c' : Addr} {oc : Obj} {vs : Array Value} {tq : Tok} (hx : x.length ≤ 1000) (B : Below A₀ base [] h₀) (F : Fr h₀ L s.heap m) (X : (Mine.hd.heap_39 w.params).In h₀) (N : News h₀ L s.heap [(c', oc), (38, tabObj #[rawInt 5, rawInt 27, .ref c'])]) (T : Top p loose mean mg mb h₀) (C : CodeHd base 42 38)
    (hc1 : oc.data = .fields vs) (hc2 : vs[1]? = some (.str (Str.ofString "stripid.<locals>.<lambda>") tq)) (hc3 : @LT.lt Nat _ 38 c') (hf : env.frame = some L) (hke : env.scope.kind = .function)
    (ret : ∀ t' h' tk', (∀ b o, s.heap.get? b = some o → h'.get? b = some o) → Fr h₀ L h' m → News h₀ L h' [(c', oc), (38, tabObj #[rawInt 5, rawInt 27, .ref c'])] → Q (.str (bareF x) t') { s with heap := h', toks := tk' }) :
    wpAny (model PySem.Challenge.rw_mq0463_01.row.prog w) (callerA.deeper env) (call (.ref 43) [.str x t]) Q E s :=
  strip_next hx B F X T C N hc1 hc2 hc3 hf hke fun t' h' tk' K => ret t' h' tk' K (fr_keep F K) (news_keep N K)
theorem bare_useK {w : World} {p : Program} {loose : List Str} {mean : ExcName → Option Value} {mg mb : Str → Option Value} {x : Str} {t : Tok} {env : Env} {A₀ : Around} {base h₀ : Heap} {L : Addr} {m : Str → Option Value} {s : Shared} {Q E : Value → Shared → Prop} {news : List (Addr × Obj)} (hx : x.length ≤ 1000) (B : Below A₀ base [] h₀) (F : Fr h₀ L s.heap m) (X : (Mine.hd.heap_39 w.params).In h₀) (N : News h₀ L s.heap news) (T : Top p loose mean mg mb h₀) (hf : env.frame = some L) (hke : env.scope.kind = .function)
    (ret : ∀ t' h' tk', (∀ b o, s.heap.get? b = some o → h'.get? b = some o) → Fr h₀ L h' m → News h₀ L h' news → Q (.str (bareF x) t') { s with heap := h', toks := tk' }) :
    wpAny (model PySem.Challenge.rw_mq0463_01.row.prog w) (callerA.deeper env) (call (.ref 55) [.str x t]) Q E s :=
  bare_claim hx B F X T hf hke fun t' h' tk' K => ret t' h' tk' K (fr_keep F K) (news_keep N K)

local macro_rules | `(tactic| walk_at "binaryOp Add str str") => `(tactic| (k_here; k_dflt (refine' Mine.add_tail ?kb ?ka ?kc ?_; (case ka => with_reducible assumption); (case kb => with_reducible assumption); (case kc => decide)); intro _ _ hA9))
local macro_rules | `(tactic| walk_at "call ref") => `(tactic| (k_here; k_dflt (refine' Mine.bare_useK ?x ?B ?F ?X ?N ?T ?hf ?hke ?_; (case hf => exact rfl); (case hke => exact rfl); (case B => k_asm); (case F => k_asm); (case X => k_asm); (case N => k_asm); (case T => k_asm); (case x => with_reducible assumption); k_whole); intro t9 h9 tk9 K9 F9 N9; (try dsimp only); (try k_fold)))
local macro_rules | `(tactic| walk_at "call ref") => `(tactic| (k_here; k_dflt (refine' Mine.next_useK ?x ?B ?F ?X ?N ?T ?C ?d1 ?d2 ?d3 ?hf ?hke ?_; (case hf => exact rfl); (case hke => exact rfl); (case B => k_asm); (case F => k_asm); (case X => k_asm); (case N => k_asm); (case T => k_asm); (case C => k_asm); (case d1 => k_asm); (case d2 => k_asm); (case d3 => k_asm); (case x => with_reducible assumption); k_whole); intro t9 h9 tk9 K9 F9 N9; (try dsimp only); (try k_fold)))

theorem if_claim {w : World} {p : Program} {loose : List Str} {mean : ExcName → Option Value} {mg mb : Str → Option Value} {x y : Str} {tx ty : Tok} {A₀ : Around} {base h₀ : Heap} {L fa : Addr} {cd : Value} {m : Str → Option Value} {s : Shared} {Q : Flow → Shared → Prop} {E : Value → Shared → Prop} {c' : Addr} {oc : Obj} {vs : Array Value} {tq : Tok}
    (hx : x.length ≤ 900) (hy : y.length ≤ 2) (B : Below A₀ base [] h₀) (F : Fr h₀ L s.heap m) (X : (Mine.hd.heap_39 w.params).In h₀) (T : Top p loose mean mg mb h₀) (C : CodeHd base 42 38) (N : News h₀ L s.heap [(c', oc), (38, tabObj #[rawInt 5, rawInt 27, .ref c'])])
    (hc1 : oc.data = .fields vs) (hc2 : vs[1]? = some (.str (Str.ofString "stripid.<locals>.<lambda>") tq)) (hc3 : @LT.lt Nat _ 38 c') (htext : m (Str.ofString "text") = some (.str x tx)) (htail : m (Str.ofString "tail") = some (.str y ty))
    (ret : ∀ h' tk', (∀ b o, s.heap.get? b = some o → h'.get? b = some o) → Q .next { s with heap := h', toks := tk' }) :
    wpAny (model PySem.Challenge.rw_mq0463_01.row.prog w) (callerA.deeper (envOfC (Str.ofString "law") lawScope L fa cd)) (execs ifBody (envOfC (Str.ofString "law") lawScope L fa cd)) Q E s := by
  w_top off
  revert X
  k_fill
  intro X
  have em : m = fun z => if z = Str.ofString "tail" then some (.str y ty) else if z = Str.ofString "text" then some (.str x tx) else m z := by
    funext z
    by_cases h1 : z = Str.ofString "tail"
    · rw [if_pos h1, h1, htail]
    · rw [if_neg h1]
      by_cases h2 : z = Str.ofString "text"
      · rw [if_pos h2, h2, htext]
      · rw [if_neg h2]
  rw [em] at F
  clear em
  dsimp only [ifBody, turnBody, lawScope, scopeDef, lawDef, forDef, PySem.Challenge.pw_mq0463_01, List.drop]
  try k_fold
  k_steps
  · exfalso
    exact ne_self _ (by assumption)
  · refine' ret _ _ (keep_trans ?k1 ?k2)
    case k2 => assumption
    case k1 => assumption
end Mine

end
section
open PySem PySem.W PyProof.Rows PySem.Calls
set_option maxRecDepth 100000
set_option maxHeartbeats 8000000
namespace Mine
theorem if_use {w : World} {p : Program} {loose : List Str} {mean : ExcName → Option Value} {mg mb : Str → Option Value} {x y : Str} {tx ty : Tok} {A₀ : Around} {base h₀ : Heap} {L fa : Addr} {cd : Value} {m : Str → Option Value} {s : Shared} {Q : Flow → Shared → Prop} {E : Value → Shared → Prop} {c' : Addr} {oc : Obj} {vs : Array Value} {tq : Tok} {news : List (Addr × Obj)} {K : Nat}
    (B : Below A₀ base [] h₀) (F : Fr h₀ L s.heap m) (X : (Mine.hd.heap_39 w.params).In h₀) (N : News h₀ L s.heap news) (T : Top p loose mean mg mb h₀) (C : CodeHd base 42 38) (m2 : (38, tabObj #[rawInt 5, rawInt 27, .ref c']) ∈ news) (m1 : (c', oc) ∈ news)
    (hc1 : oc.data = .fields vs) (hc2 : vs[1]? = some (.str (Str.ofString "stripid.<locals>.<lambda>") tq)) (hc3 : @LT.lt Nat _ 38 c') (htext : m (Str.ofString "text") = some (.str x tx)) (htail : m (Str.ofString "tail") = some (.str y ty))
    (hx : x.length ≤ K) (hK : K ≤ 900) (hy : y.length ≤ 2)
    (ret : ∀ h' tk', Fr h₀ L h' m → News h₀ L h' news → Q .next { s with heap := h', toks := tk' }) :
    wpAny (model PySem.Challenge.rw_mq0463_01.row.prog w) (callerA.deeper (envOfC (Str.ofString "law") lawScope L fa cd)) (execs ifBody (envOfC (Str.ofString "law") lawScope L fa cd)) Q E s :=
  if_claim (Nat.le_trans hx hK) hy B F X T C (fun q hq => by
    rcases List.mem_cons.mp hq with rfl | hq
    · exact N _ m1
    · rw [List.mem_singleton.mp hq]; exact N _ m2) hc1 hc2 hc3 htext htail fun h' tk' K => ret h' tk' (fr_keep F K) (news_keep N K)

local macro_rules | `(tactic| walk_at "CompSrc") => `(tactic| (k_here; k_dflt (
  (refine LCg.CompSrc.range (by rfl) (by k_asm) (by k_asm) (by assumption) (by exact small_one (by omega) (by omega) (by omega) (by omega)) (by exact rangeSize_nat _ _) (by rw [PySem.sizeLine_eq]; omega) ?_; intro g'; (refine' kct_range _ (fun k' t' I' oI' C' oC' D' m' ys' h' tk' E' hlo' hhi' hC' hx' F' N' off' ne' => ?_) ?_); (all_goals (try ((show KPfMark → _); intro hMark'))); kcf_last))))
theorem kct_fin {h₀ : Heap} {L I C D : Addr} {m : Str → Option Value} {s₁ : Shared} {oI oC oD : Obj} {r : Str} {y : Value} {h' : Heap} {tk : Nat} {all news : List (Addr × Obj)}
    (F : Fr h₀ L h' m) (N : News h₀ L h' all) (sub : ∀ p ∈ (I, oI) :: (C, oC) :: (D, oD) :: news, p ∈ all) (off : LCg.Off3 I C D news) (h : KCtEl news r y news) :
    LCg.CompEnd h₀ L m s₁ I oI C oC D oD (fun _ => True) (fun y news' => KCtEl news r y news') y { s₁ with heap := h', toks := tk } := LCg.CompEnd.intro F N news sub off True.intro h
local macro_rules | `(tactic| walk_at "CompEnd") => `(tactic| (k_dflt (refine' Mine.kct_fin ?kF ?kN ?kS ?kO ?_; (case kF => assumption); (case kN => assumption); (case kS => kcf_all); (case kO => assumption))))
local macro_rules | `(tactic| walk_at "FinE") => `(tactic| ((unfold LCg.FinE); intro D' h' tk' F' N' o1'; clear o1'; (try simp only [List.nil_append, List.cons_append] at N'); (try dsimp only)))
local macro_rules | `(tactic| walk_at "call builtin:str.join") => `(tactic| (k_here; (with_reducible show wpAny _ _ (call (Value.builtin "str.join") [Value.str _ _, Value.ref _]) _ _ _); (with_reducible rename CarriedAll _ (List.map _ _) => ktC); (refine Mine.join_figs (by first | assumption | is_list | exact News.isList (by k_asm) (by k_mem)) ktC (by intro ktA ktM; kct_one) (by rw [rangeKs_length]; omega) ?_; clear ktC; intro _ _ _ hJ9)))
local macro_rules | `(tactic| walk_at "binaryOp Add str str") => `(tactic| (k_here; k_dflt (refine' Mine.add_any ?ka ?kb ?kc ?_; (case ka => with_reducible assumption); (case kb => with_reducible assumption); (case kc => decide)); intro _ _ _ hA9))
local macro_rules | `(tactic| walk_at "binaryOp Mult str int") => `(tactic| (k_here; k_dflt (refine Mine.mul_gt ?_); intro _ _ _ hM9))
local macro_rules | `(tactic| walk_at "call ref") => `(tactic| (k_here; k_dflt (refine' Mine.piece_use6 ?B ?F ?X ?N ?T ?hA ?hf ?hke ?room ?_; (case hA => exact rfl); (case hf => exact rfl); (case hke => exact rfl); (case B => k_asm); (case F => k_asm); (case X => k_asm); (case N => k_asm); (case T => k_asm); (case room => k_room); k_whole); intro t9 h9 tk9 F9 N9 hP9; (try dsimp only); (try k_fold)))
local macro_rules | `(tactic| walk_at "execs cons") => `(tactic| (k_here; k_dflt (refine' Mine.if_use ?B ?F ?X ?N ?T ?C ?m2 ?m1 ?d1 ?d2 ?d3 ?t1 ?t2 ?x ?kk ?y ?_; (case B => k_asm); (case F => k_asm); (case X => k_asm); (case N => k_asm); (case T => k_asm); (case C => k_asm); (case m2 => k_mem); (case m1 => k_mem); (case d1 => k_asm); (case d2 => k_asm); (case d3 => k_asm); (case t1 => exact rfl); (case t2 => exact rfl); (case x => with_reducible assumption); (case kk => decide); (case y => decide +kernel); k_whole); intro h9 tk9 F9 N9; (try dsimp only)))

theorem news_drop2 {h₀ h : Heap} {L : Addr} {x y : Addr × Obj} {l : List (Addr × Obj)} (N : News h₀ L h (x :: y :: l)) : News h₀ L h l := fun p hp => N p (.tail _ (.tail _ hp))
theorem turn_claim0 {w : World} {p : Program} {loose : List Str} {mean : ExcName → Option Value} {mg mb : Str → Option Value} {d : Str} {c tot : Int} {td tc tt : Tok} {l : Addr} {lv : List Value} {ns : List Int} {A₀ : Around} {base h₀ : Heap} {L fa : Addr} {cd : Value} {m : Str → Option Value} {s : Shared} {Q : Flow → Shared → Prop} {c' : Addr} {oc oT : Obj} {vs : Array Value} {tq : Tok}
    {a1 a2 a3 a4 a5 : Addr} {o1 o2 o3 o4 o5 : Obj}
    (B : Below A₀ base [] h₀) (F : Fr h₀ L s.heap m) (X : (Mine.hd.heap_39 w.params).In h₀) (N : News h₀ L s.heap [(a1, o1), (a2, o2), (c', oc), (a3, o3), (a4, o4), (a5, o5), (L + 1, oT), (38, tabObj #[rawInt 5, rawInt 27, .ref c'])]) (T : Top p loose mean mg mb h₀) (C : CodeHd base 42 38)
    (hl : h₀.IsList l lv.toArray) (hi : IntsAre lv ns) (hn : ns.length ≤ 63)
    (hT : oT.data = .cell (some (.int tot tt)))
    (hc1 : oc.data = .fields vs) (hc2 : vs[1]? = some (.str (Str.ofString "stripid.<locals>.<lambda>") tq)) (hc3 : @LT.lt Nat _ 38 c') (hcount : m (Str.ofString "count") = some (.int c tc)) (hdrawn : m (Str.ofString "drawn") = some (.str d td)) (hscript : m (Str.ofString "script") = some (.ref l))
    (h0 : 0 ≤ c) (h17 : c ≤ 17) (hd : d.length ≤ 72)
    (ret : ∀ h' tk' m', Fr h₀ L h' m' → m' (Str.ofString "drawn") = some (.str d td) → m' (Str.ofString "script") = some (.ref l) → News h₀ L h' [(a1, o1), (a2, o2), (c', oc), (a3, o3), (a4, o4), (a5, o5), (L + 1, oT), (38, tabObj #[rawInt 5, rawInt 27, .ref c'])] → Q .next { s with heap := h', toks := tk' }) :
    wpAny (model PySem.Challenge.rw_mq0463_01.row.prog w) (callerA.deeper (envOfC (Str.ofString "law") lawScope L fa cd)) (execs turnBody (envOfC (Str.ofString "law") lawScope L fa cd)) Q (fun _ _ => False) s := by
  w_top off
  revert X
  k_fill
  intro X
  have em : m = fun z => if z = Str.ofString "count" then some (.int c tc) else if z = Str.ofString "drawn" then some (.str d td) else if z = Str.ofString "script" then some (.ref l) else m z := by
    funext z
    by_cases h1 : z = Str.ofString "count"
    · rw [if_pos h1, h1, hcount]
    · rw [if_neg h1]
      by_cases h2 : z = Str.ofString "drawn"
      · rw [if_pos h2, h2, hdrawn]
      · rw [if_neg h2]
        by_cases h3 : z = Str.ofString "script"
        · rw [if_pos h3, h3, hscript]
        · rw [if_neg h3]
  rw [em] at F
  clear em
  dsimp only [turnBody, lawScope, scopeDef, lawDef, forDef, PySem.Challenge.pw_mq0463_01, List.drop]
  try k_fold
  k_steps
  refine' ret _ _ _ ?kF ?k1 ?k2 (Mine.news_drop2 ?kN)
  case kF => assumption
  case k1 => exact rfl
  case k2 => exact rfl
  case kN => assumption

theorem turn_claim {w : World} {p : Program} {loose : List Str} {mean : ExcName → Option Value} {mg mb : Str → Option Value} {d : Str} {c tot : Int} {td tc tt : Tok} {l : Addr} {lv : List Value} {ns : List Int} {A₀ : Around} {base h₀ : Heap} {L fa : Addr} {cd : Value} {m : Str → Option Value} {s : Shared} {Q : Flow → Shared → Prop} {E : Value → Shared → Prop} {c' : Addr} {oc oT : Obj} {vs : Array Value} {tq : Tok}
    {a1 a2 a3 a4 a5 : Addr} {o1 o2 o3 o4 o5 : Obj}
    (B : Below A₀ base [] h₀) (F : Fr h₀ L s.heap m) (X : (Mine.hd.heap_39 w.params).In h₀) (N : News h₀ L s.heap [(a1, o1), (a2, o2), (c', oc), (a3, o3), (a4, o4), (a5, o5), (L + 1, oT), (38, tabObj #[rawInt 5, rawInt 27, .ref c'])]) (T : Top p loose mean mg mb h₀) (C : CodeHd base 42 38)
    (hl : h₀.IsList l lv.toArray) (hi : IntsAre lv ns) (hn : ns.length ≤ 63)
    (hT : oT.data = .cell (some (.int tot tt)))
    (hc1 : oc.data = .fields vs) (hc2 : vs[1]? = some (.str (Str.ofString "stripid.<locals>.<lambda>") tq)) (hc3 : @LT.lt Nat _ 38 c') (hcount : m (Str.ofString "count") = some (.int c tc)) (hdrawn : m (Str.ofString "drawn") = some (.str d td)) (hscript : m (Str.ofString "script") = some (.ref l))
    (h0 : 0 ≤ c) (h17 : c ≤ 17) (hd : d.length ≤ 72)
    (ret : ∀ h' tk' m', Fr h₀ L h' m' → m' (Str.ofString "drawn") = some (.str d td) → m' (Str.ofString "script") = some (.ref l) → News h₀ L h' [(a1, o1), (a2, o2), (c', oc), (a3, o3), (a4, o4), (a5, o5), (L + 1, oT), (38, tabObj #[rawInt 5, rawInt 27, .ref c'])] → Q .next { s with heap := h', toks := tk' }) :
    wpAny (model PySem.Challenge.rw_mq0463_01.row.prog w) (callerA.deeper (envOfC (Str.ofString "law") lawScope L fa cd)) (execs turnBody (envOfC (Str.ofString "law") lawScope L fa cd)) Q E s :=
  wpAny_noRaise (turn_claim0 B F X N T C hl hi hn hT hc1 hc2 hc3 hcount hdrawn hscript h0 h17 hd ret)
end Mine

end
section
open PySem PySem.W PyProof.Rows PySem.Calls
set_option maxRecDepth 100000
set_option maxHeartbeats 8000000
namespace Mine
theorem turn_use {w : World} {p : Program} {loose : List Str} {mean : ExcName → Option Value} {mg mb : Str → Option Value} {d : Str} {c tot : Int} {td tc tt : Tok} {l : Addr} {lv : List Value} {ns : List Int} {A₀ : Around} {base h₀ : Heap} {L fa : Addr} {cd : Value} {m : Str → Option Value} {s : Shared} {Q : Flow → Shared → Prop} {E : Value → Shared → Prop} {c' : Addr} {oc oT : Obj} {vs : Array Value} {tq : Tok}
    {a1 a2 a3 a4 a5 : Addr} {o1 o2 o3 o4 o5 : Obj}
    (B : Below A₀ base [] h₀) (F : Fr h₀ L s.heap m) (X : (Mine.hd.heap_39 w.params).In h₀) (N : News h₀ L s.heap [(a1, o1), (a2, o2), (c', oc), (a3, o3), (a4, o4), (a5, o5), (L + 1, oT), (38, tabObj #[rawInt 5, rawInt 27, .ref c'])]) (T : Top p loose mean mg mb h₀) (C : CodeHd base 42 38)
    (hl : h₀.IsList l lv.toArray) (hi : IntsAre lv ns) (hn : ns.length ≤ 63)
    (hT : oT.data = .cell (some (.int tot tt)))
    (hc1 : oc.data = .fields vs) (hc2 : vs[1]? = some (.str (Str.ofString "stripid.<locals>.<lambda>") tq)) (hc3 : @LT.lt Nat _ 38 c') (hcount : m (Str.ofString "count") = some (.int c tc)) (hdrawn : m (Str.ofString "drawn") = some (.str d td)) (hscript : m (Str.ofString "script") = some (.ref l))
    (h0 : 0 ≤ c) (h17 : c ≤ 17) (hd : d.length ≤ 72)
    (ret : ∀ (h' : Heap) (tk' : Nat) (m' : Str → Option Value), Fr h₀ L h' (fun z => if z = Str.ofString "drawn" then some (.str d td) else if z = Str.ofString "script" then some (.ref l) else m' z) → News h₀ L h' [(a1, o1), (a2, o2), (c', oc), (a3, o3), (a4, o4), (a5, o5), (L + 1, oT), (38, tabObj #[rawInt 5, rawInt 27, .ref c'])] → Q .next { s with heap := h', toks := tk' }) :
    wpAny (model PySem.Challenge.rw_mq0463_01.row.prog w) (callerA.deeper (envOfC (Str.ofString "law") lawScope L fa cd)) (execs turnBody (envOfC (Str.ofString "law") lawScope L fa cd)) Q E s :=
  turn_claim B F X N T C hl hi hn hT hc1 hc2 hc3 hcount hdrawn hscript h0 h17 hd fun h' tk' m' F' e1 e2 N' => by
    have em : m' = fun z => if z = Str.ofString "drawn" then some (.str d td) else if z = Str.ofString "script" then some (.ref l) else m' z := by
      funext z
      by_cases h1 : z = Str.ofString "drawn"
      · rw [if_pos h1, h1, e1]
      · rw [if_neg h1]
        by_cases h2 : z = Str.ofString "script"
        · rw [if_pos h2, h2, e2]
        · rw [if_neg h2]
    rw [em] at F'
    exact ret h' tk' m' F' N'
end Mine

end

open PySem PySem.W PyProof.Rows PySem.Calls
set_option maxRecDepth 100000
set_option maxHeartbeats 8000000
local macro_rules | `(tactic| walk_at "CompSrc") => `(tactic| (k_here; (try kcf_lens); k_dflt (
  (refine LCg.CompSrc.ledger (by rfl) (by k_asm) (by k_asm) (by k_mem) (by kcf_size) ?_; intro g'; (refine' kct_list Mine.pieceF (by first | assumption | l_ints) (fun k' t' I' oI' C' oC' D' m' ys' h' tk' E' hk' hC' hx' F' N' off' ne' hMark' => ?_) ?_); (all_goals (try (simp only [LCg.Off3, and_true] at off'))); kcf_last))))
local macro_rules | `(tactic| walk_at "call builtin:str.join") => `(tactic| (k_here; (with_reducible show wpAny _ _ (call (Value.builtin "str.join") [Value.str _ _, Value.ref _]) _ _ _); (with_reducible rename CarriedAll _ (List.map _ _) => ktC); (refine Mine.join_pieces (by first | assumption | is_list | exact News.isList (by k_asm) (by k_mem)) ktC (by omega) ?_; clear ktC; intro _ _ _ hK9 hJ9)))
local macro_rules | `(tactic| walk_at "call ref") => `(tactic| (k_here; k_dflt (refine' Mine.piece_use6 ?B ?F ?X ?N ?T ?hA ?hf ?hke ?room ?_; (case hA => exact rfl); (case hf => exact rfl); (case hke => exact rfl); (case B => k_asm); (case F => k_asm); (case X => k_asm); (case N => k_asm); (case T => k_asm); (case room => k_room); k_whole); intro t9 h9 tk9 F9 N9 hP9; (try dsimp only); (try k_fold)))
local macro_rules | `(tactic| walk_at "call ref") => `(tactic| (k_here; k_dflt (refine' Mine.bare_use ?x ?B ?F ?X ?N ?T ?hf ?hke ?_; (case hf => exact rfl); (case hke => exact rfl); (case B => k_asm); (case F => k_asm); (case X => k_asm); (case N => k_asm); (case T => k_asm); (case x => with_reducible assumption); k_whole); intro t9 h9 tk9 F9 N9; (try dsimp only); (try k_fold)))
local macro_rules | `(tactic| walk_at "call ref") => `(tactic| (k_here; k_dflt (refine' Mine.first_use ?x ?B ?F ?X ?N ?T ?C ?U ?hf ?hke ?_; (case hf => exact rfl); (case hke => exact rfl); (case B => k_asm); (case F => k_asm); (case X => k_asm); (case N => k_asm); (case T => k_asm); (case C => k_asm); (case U => k_updF); (case x => with_reducible assumption); k_whole); intro t9 h9 tk9 c9 oc9 vs9 tq9 F9 N9 d1 d2 l38; (try dsimp only at N9); (try dsimp only); (try k_fold)))
local macro_rules | `(tactic| walk_at "execs cons") => `(tactic| (k_here; k_dflt (refine' Mine.turn_use ?B ?F ?X ?N ?T ?C ?hl ?hi ?hn ?hT ?d1 ?d2 ?d3 ?t1 ?t2 ?t3 ?h0 ?h17 ?hd ?_; (case B => k_asm); (case F => k_asm); (case X => k_asm); (case N => k_asm); (case T => k_asm); (case C => k_asm); (case hl => k_asm); (case hi => k_asm); (case hn => first | with_reducible assumption | omega); (case hT => with_reducible assumption); (case d1 => k_asm); (case d2 => k_asm); (case d3 => k_asm); (case t1 => exact rfl); (case t2 => exact rfl); (case t3 => exact rfl); (case h0 => decide); (case h17 => decide); (case hd => with_reducible assumption); k_whole); intro h9 tk9 m9 F9 N9; (try dsimp only)))
theorem PySem.Challenge.cw_mq0463_01_holds : PySem.Challenge.rw_mq0463_01.Holds := by
  refine Mine.hd ?_
  w_strict (k_go0; (all_goals try k_fold); k_steps)
