/-
  THE PLAIN LAW: a script of writes and calls gives parts that tile the text. No walk in sight.
-/
import Derived.Test.Qxb6001177aBody
namespace Go.Proofs.Qxb6001177a

/-- What the reader of the parts has seen: where it stands, how many calls, how many text parts; was the last part text? -/
structure Sc where
  pos : Nat
  calls : Nat
  runs : Nat
  prev : Bool

def scan1 (a : Sc) (p : PartD) : Option Sc :=
  match p.call with
  | some _ => some ⟨a.pos, a.calls + 1, a.runs, false⟩
  | none => if a.prev = true ∨ p.st ≠ a.pos ∨ p.en ≤ p.st then none else some ⟨p.en, a.calls, a.runs + 1, true⟩

def scan : Sc → List PartD → Option Sc
  | a, [] => some a
  | a, p :: ps => (scan1 a p).bind fun a' => scan a' ps

theorem scan_append (a : Sc) (ps qs : List PartD) : scan a (ps ++ qs) = (scan a ps).bind fun a' => scan a' qs := by
  induction ps generalizing a with
  | nil => rfl
  | cons p ps ih =>
    simp only [List.cons_append, scan]
    cases scan1 a p with
    | none => rfl
    | some a' => exact ih a'

theorem scan_one (a : Sc) (p : PartD) : scan a [p] = scan1 a p := by
  simp only [scan]
  cases scan1 a p <;> rfl

theorem scan1_le {a r : Sc} {p : PartD} (h : scan1 a p = some r) : r.calls ≤ a.calls + 1 ∧ r.runs ≤ a.runs + 1 := by
  unfold scan1 at h
  split at h
  · simp at h; subst h; simp
  · split at h
    · cases h
    · simp at h; subst h; simp

theorem scan_le {a r : Sc} {ps : List PartD} (h : scan a ps = some r) : r.calls ≤ a.calls + ps.length ∧ r.runs ≤ a.runs + ps.length := by
  induction ps generalizing a with
  | nil => simp [scan] at h; subst h; simp
  | cons p ps ih =>
    simp only [scan, Option.bind_eq_some_iff] at h
    obtain ⟨a', h1, h2⟩ := h
    have := ih h2
    have := scan1_le h1
    simp
    omega

/-- At part i of parts that scan well. -/
theorem scan_at {z r : Sc} {ps : List PartD} (h : scan z ps = some r) (i : Nat) (p : PartD) (hp : ps[i]? = some p) :
    ∃ a', ∀ a, scan z (ps.take i) = some a → scan1 a p = some a' ∧ scan z (ps.take (i + 1)) = some a' := by
  have hi : i < ps.length := (List.getElem?_eq_some_iff.1 hp).1
  have e1 : ps.take (i + 1) = ps.take i ++ [p] := by
    rw [List.take_succ_eq_append_getElem hi]
    have := (List.getElem?_eq_some_iff.1 hp).2
    rw [this]
  have e2 : ps = ps.take (i + 1) ++ ps.drop (i + 1) := (List.take_append_drop _ _).symm
  rw [e2, scan_append, Option.bind_eq_some_iff] at h
  obtain ⟨a', h1, _⟩ := h
  refine ⟨a', fun a ha => ⟨?_, h1⟩⟩
  rw [e1, scan_append, ha] at h1
  simpa [scan_one] using h1

/-- The body's state as data: the closed parts; where the open text part starts, if one is open; the text. -/
structure St where
  qs : List PartD
  op : Option Nat
  l : List UInt8

def St.parts (σ : St) : List PartD := σ.qs ++ (match σ.op with | some st => [⟨st, σ.l.length, none⟩] | none => [])
def St.write (σ : St) (s : List UInt8) : St := if s.isEmpty then σ else ⟨σ.qs, some (σ.op.getD σ.l.length), σ.l ++ s⟩
def St.call (σ : St) (c : Nat) : St := ⟨σ.parts ++ [⟨σ.l.length, σ.l.length, some c⟩], none, σ.l⟩

/-- No part, or a call last. -/
def Last (qs : List PartD) : Prop := qs = [] ∨ ∃ qs' a b c, qs = qs' ++ [⟨a, b, some c⟩]

def z0 : Sc := ⟨0, 0, 0, false⟩

/-- The text is l; so many calls, so many text parts; is one open? -/
structure Inv (l : List UInt8) (calls runs : Nat) (o : Bool) (σ : St) : Prop where
  text : σ.l = l
  shut : σ.op = none → o = false ∧ scan z0 σ.qs = some ⟨l.length, calls, runs, false⟩ ∧ Last σ.qs
  live : ∀ st, σ.op = some st → o = true ∧ st < l.length ∧ ∃ r, runs = r + 1 ∧ scan z0 σ.qs = some ⟨st, calls, r, false⟩

theorem Inv.start : Inv [] 0 0 false ⟨[], none, []⟩ := ⟨rfl, fun _ => ⟨rfl, rfl, .inl rfl⟩, fun _ h => by cases h⟩

theorem Inv.scan {l : List UInt8} {calls runs : Nat} {o : Bool} {σ : St} (h : Inv l calls runs o σ) : scan z0 σ.parts = some ⟨l.length, calls, runs, o⟩ := by
  unfold St.parts
  rw [scan_append]
  cases hop : σ.op with
  | none =>
    obtain ⟨rfl, h2, _⟩ := h.shut hop
    rw [h2]
    rfl
  | some st =>
    obtain ⟨rfl, h2, r, rfl, h4⟩ := h.live st hop
    rw [h4, h.text]
    simp [scan_one, scan1]
    omega

theorem Inv.write {l : List UInt8} {calls runs : Nat} {o : Bool} {σ : St} (h : Inv l calls runs o σ) (s : List UInt8) (hs : s.isEmpty = false) : Inv (l ++ s) calls (if o then runs else runs + 1) true (σ.write s) := by
  have hpos : 0 < s.length := by cases s with | nil => simp at hs | cons a s => simp
  have e : σ.write s = ⟨σ.qs, some (σ.op.getD σ.l.length), σ.l ++ s⟩ := by simp [St.write, hs]
  rw [e]
  refine ⟨by rw [h.text], fun h' => (by cases h'), fun st hst => ?_⟩
  simp only [Option.some.injEq] at hst
  cases hop : σ.op with
  | none =>
    obtain ⟨rfl, h2, _⟩ := h.shut hop
    rw [hop, h.text] at hst
    simp only [Option.getD_none] at hst
    subst hst
    exact ⟨rfl, by simp; omega, runs, by simp, h2⟩
  | some st' =>
    obtain ⟨rfl, h2, r, rfl, h4⟩ := h.live st' hop
    rw [hop] at hst
    simp only [Option.getD_some] at hst
    subst hst
    exact ⟨rfl, by simp; omega, r, by simp, h4⟩

theorem Inv.write_nil {l : List UInt8} {calls runs : Nat} {o : Bool} {σ : St} (h : Inv l calls runs o σ) (s : List UInt8) (hs : s.isEmpty = true) : Inv (l ++ s) calls runs o (σ.write s) := by
  have e : s = [] := by simpa using hs
  subst e
  simpa [St.write] using h

theorem Inv.call {l : List UInt8} {calls runs : Nat} {o : Bool} {σ : St} (h : Inv l calls runs o σ) (c : Nat) : Inv l (calls + 1) runs false (σ.call c) := by
  refine ⟨h.text, fun _ => ⟨rfl, ?_, .inr ⟨_, _, _, _, rfl⟩⟩, fun st hst => by cases hst⟩
  simp only [St.call, scan_append, h.scan, Option.bind_some, scan_one, scan1]

/-! ### What the law's own counters hold behind k rounds -/
def callAt (g : Nat → Bool) (m i : Nat) : Bool := decide (i < m) && g i
def callsTo (g : Nat → Bool) (m : Nat) : Nat → Nat
  | 0 => 0
  | k + 1 => callsTo g m k + (if callAt g m k then 1 else 0)
def runsTo (f : Nat → List UInt8) (g : Nat → Bool) (m : Nat) : Nat → Nat × Bool
  | 0 => (0, false)
  | k + 1 => (if !(f k).isEmpty && !(runsTo f g m k).2 then (runsTo f g m k).1 + 1 else (runsTo f g m k).1, if callAt g m k then false else (!(f k).isEmpty || (runsTo f g m k).2))
def catTo (f : Nat → List UInt8) : Nat → List UInt8
  | 0 => []
  | k + 1 => catTo f k ++ f k

theorem callsTo_le (g : Nat → Bool) (m k : Nat) : callsTo g m k ≤ k := by
  induction k with
  | zero => simp [callsTo]
  | succ k ih => simp only [callsTo]; split <;> omega

theorem runsTo_le (f : Nat → List UInt8) (g : Nat → Bool) (m k : Nat) : (runsTo f g m k).1 ≤ k := by
  induction k with
  | zero => simp [runsTo]
  | succ k ih => simp only [runsTo]; split <;> omega

/-- Behind k rounds of the script. -/
def At (f : Nat → List UInt8) (g : Nat → Bool) (m k : Nat) (σ : St) : Prop := Inv (catTo f k) (callsTo g m k) (runsTo f g m k).1 (runsTo f g m k).2 σ

theorem At.zero (f : Nat → List UInt8) (g : Nat → Bool) (m : Nat) : At f g m 0 ⟨[], none, []⟩ := Inv.start

theorem At.mid {f : Nat → List UInt8} {g : Nat → Bool} {m k : Nat} {σ : St} (h : At f g m k σ) :
    Inv (catTo f (k + 1)) (callsTo g m k) (runsTo f g m (k + 1)).1 (!(f k).isEmpty || (runsTo f g m k).2) (σ.write (f k)) := by
  unfold At at h
  cases hs : (f k).isEmpty with
  | true =>
    have := h.write_nil (f k) hs
    simpa [catTo, runsTo, hs] using this
  | false =>
    have := h.write (f k) hs
    cases ho : (runsTo f g m k).2 <;> simpa [catTo, runsTo, hs, ho] using this

theorem At.no {f : Nat → List UInt8} {g : Nat → Bool} {m k : Nat} {σ : St} (h : At f g m k σ) (hc : callAt g m k = false) : At f g m (k + 1) (σ.write (f k)) := by
  have := h.mid
  unfold At
  simpa [callsTo, runsTo, hc] using this

theorem At.yes {f : Nat → List UInt8} {g : Nat → Bool} {m k : Nat} {σ : St} (h : At f g m k σ) (hc : callAt g m k = true) (c : Nat) : At f g m (k + 1) ((σ.write (f k)).call c) := by
  have := h.mid.call c
  unfold At
  simpa [callsTo, runsTo, hc] using this

theorem St.parts_le {σ : St} (N : Nat) (hq : σ.qs.length ≤ N) : σ.parts.length ≤ N + 1 := by
  unfold St.parts
  cases σ.op <;> simp <;> omega

theorem write_qs (σ : St) (s : List UInt8) : (σ.write s).qs = σ.qs := by
  unfold St.write
  split <;> rfl

theorem call_qs (σ : St) (c : Nat) : (σ.call c).qs.length ≤ σ.qs.length + 2 := by
  unfold St.call St.parts
  cases σ.op <;> simp

end Go.Proofs.Qxb6001177a
