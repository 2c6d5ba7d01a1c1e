/-
  THE PLAIN LAW: lowering ASCII letters, over lists of bytes. No Go in sight.
-/
namespace Go.Proofs.Qxb6602683aMods.Low

/-- Is the byte one of 'A'..'Z'? -/
def up (c : UInt8) : Bool := decide (65 ≤ c.toNat) && decide (c.toNat ≤ 90)
/-- The byte, lowered. -/
def lowByte (c : UInt8) : UInt8 := if up c then c + 32 else c
def low (l : List UInt8) : List UInt8 := l.map lowByte
def hasUp (l : List UInt8) : Bool := l.any up

theorem lowByte_toNat_up (c : UInt8) (h : up c = true) : (lowByte c).toNat = c.toNat + 32 := by
  simp only [lowByte, h, if_true]
  simp only [up, Bool.and_eq_true, decide_eq_true_eq] at h
  rw [UInt8.toNat_add]
  have : (32 : UInt8).toNat = 32 := rfl
  omega

theorem up_lowByte (c : UInt8) : up (lowByte c) = false := by
  by_cases h : up c = true
  · have e := lowByte_toNat_up c h
    simp only [up, Bool.and_eq_true, decide_eq_true_eq] at h
    simp only [up, e, Bool.and_eq_false_iff, decide_eq_false_iff_not]
    omega
  · simp only [lowByte, h]
    simpa using h

theorem lowByte_lowByte (c : UInt8) : lowByte (lowByte c) = lowByte c := by
  have h := up_lowByte c
  generalize lowByte c = d at h
  simp [lowByte, h]

theorem lowByte_eq_iff (c : UInt8) : lowByte c = c ↔ up c = false := by
  constructor
  · intro h
    have := up_lowByte c
    rwa [h] at this
  · intro h
    simp [lowByte, h]

theorem hasUp_low (l : List UInt8) : hasUp (low l) = false := by
  simp [hasUp, low, up_lowByte]

theorem low_low (l : List UInt8) : low (low l) = low l := by
  simp [low, lowByte_lowByte]

theorem low_eq_iff (l : List UInt8) : low l = l ↔ hasUp l = false := by
  induction l with
  | nil => simp [low, hasUp]
  | cons c l ih =>
    have ih' : List.map lowByte l = l ↔ List.any l up = false := ih
    simp only [low, hasUp, List.map_cons, List.any_cons, List.cons.injEq, Bool.or_eq_false_iff, lowByte_eq_iff, ih']

/-- The law's last test. -/
theorem last_test (l : List UInt8) : (low l == l) = !(hasUp l) := by
  by_cases h : hasUp l = true
  · have : ¬ low l = l := by rw [low_eq_iff]; simp [h]
    simp [h, this]
  · have h' : hasUp l = false := by simpa using h
    have : low l = l := (low_eq_iff l).2 h'
    simp [h', this]

end Go.Proofs.Qxb6602683aMods.Low
