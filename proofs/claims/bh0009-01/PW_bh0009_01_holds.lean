import PyProof.Rows.All
import Wide.All
import OpenK.AllK
import Wide.FinOn
import PySem.Challenge.RW_bh0009_01
open PySem PySem.W PyProof.Rows
set_option Elab.async false

namespace Mine
theorem fd (a : Int) {b : Int} (h : 0 ≤ b) : a.fdiv b = a / b := Int.fdiv_eq_ediv_of_nonneg a h
theorem fm (a : Int) {b : Int} (h : 0 ≤ b) : a.fmod b = a % b := Int.fmod_eq_emod_of_nonneg a h

def leapG (y : Int) : Bool := y.fmod 4 == 0 && (y.fmod 100 != 0 || y.fmod 400 == 0)
theorem leapG_iff (y : Int) : leapG y = true ↔ y % 4 = 0 ∧ (y % 100 ≠ 0 ∨ y % 400 = 0) := by
  unfold leapG
  rw [fm y (by decide : (0 : Int) ≤ 4), fm y (by decide : (0 : Int) ≤ 100), fm y (by decide : (0 : Int) ≤ 400)]
  simp
def toJdG (y m : Int) : Int := 1721426 - 1 + 365 * (y - 1) + (y - 1).fdiv 4 + -((y - 1).fdiv 100) + (y - 1).fdiv 400 + ((367 * m - 362).fdiv 12 + (if m ≤ 2 then 0 else if leapG y = true then -1 else -2) + 1)
theorem toJdG_eq (y m : Int) : toJdG y m = 1721426 - 1 + 365 * (y - 1) + (y - 1) / 4 + -((y - 1) / 100) + (y - 1) / 400 + ((367 * m - 362) / 12 + (if m ≤ 2 then 0 else if leapG y = true then -1 else -2) + 1) := by
  unfold toJdG
  rw [fd _ (by decide : (0 : Int) ≤ 4), fd _ (by decide : (0 : Int) ≤ 100), fd _ (by decide : (0 : Int) ≤ 400), fd _ (by decide : (0 : Int) ≤ 12)]
abbrev short (m : Int) : Prop := m = 4 ∨ m = 6 ∨ m = 9 ∨ m = 11
def lenG (y m : Int) : Int := if m = 2 then (if leapG y = true then 29 else 28) else if short m then 30 else 31
def jdG (y m : Int) : Int := toJdG y m - 1
def lenJ (y m : Int) : Int := if m = 2 then (if y % 4 = 0 then 29 else 28) else if short m then 30 else 31
def jdJ (y m : Int) : Int := 1721423 + 365 * (y - 1) + (y - 1) / 4 + (367 * m - 362) / 12 + (if m ≤ 2 then 0 else if y % 4 = 0 then -1 else -2)
def lenI (y m : Int) : Int := if m % 2 = 1 ∨ (m = 12 ∧ (y * 11 + 14) % 30 < 11) then 30 else 29
def jdI (y m : Int) : Int := -((-59 * (m - 1)) / 2) + (y - 1) * 354 + (3 + 11 * y) / 30 + 1948440 - 1
def lenC (y m : Int) : Int := if m ≤ 12 then 30 else if y % 4 = 3 then 6 else 5
def jdC (y m : Int) : Int := (m - 1) * 30 + (y - 1) * 365 + y / 4 + 1825030 - 1
def lenA (_y m : Int) : Int := if m = 13 then 5 else 30
def jdA (y m : Int) : Int := 1922502 + 365 * y + 30 * (m - 1)
def lenS (y m : Int) : Int := if m = 13 then (if 533 ≤ y ∧ y % 4 = 0 then 6 else 5) else 30
def jdS (y m : Int) : Int := 2117211 + 365 * (y - 533) + (y - 533) / 4 + 30 * (m - 1)

structure Cal (M : Int) (jd len : Int → Int → Int) (ok : Int → Prop) : Prop where
  one : 1 ≤ M
  pos : ∀ y m, 1 ≤ m → m ≤ M → 1 ≤ len y m
  inner : ∀ y m, ok y → 1 ≤ m → m < M → jd y (m + 1) = jd y m + len y m
  wrap : ∀ y, ok y → jd (y + 1) 1 = jd y M + len y M
  next : ∀ y, ok y → ok (y + 1)
namespace Cal
variable {M : Int} {jd len : Int → Int → Int} {ok : Int → Prop}
theorem months (C : Cal M jd len ok) {y : Int} (hy : ok y) {m : Int} (h1 : 1 ≤ m) : ∀ t : Nat, m + 1 + t ≤ M → jd y m + len y m ≤ jd y (m + 1 + t) := by
  intro t
  induction t with
  | zero =>
    intro h
    have e := C.inner y m hy h1 (by omega)
    have : m + 1 + ((0 : Nat) : Int) = m + 1 := by omega
    rw [this]; omega
  | succ t ih =>
    intro h
    have a := ih (by omega)
    have e := C.inner y (m + 1 + t) hy (by omega) (by omega)
    have p := C.pos y (m + 1 + t) (by omega) (by omega)
    have : m + 1 + ((t + 1 : Nat) : Int) = m + 1 + t + 1 := by omega
    rw [this]; omega
theorem within (C : Cal M jd len ok) {y m m' : Int} (hy : ok y) (h1 : 1 ≤ m) (hm : m < m') (h2 : m' ≤ M) : jd y m + len y m ≤ jd y m' := by
  have h := C.months hy h1 (m' - m - 1).toNat (by omega)
  have e : m + 1 + ((m' - m - 1).toNat : Int) = m' := by omega
  rw [e] at h; exact h
theorem year (C : Cal M jd len ok) {y m : Int} (hy : ok y) (h1 : 1 ≤ m) (h2 : m ≤ M) : jd y m + len y m ≤ jd (y + 1) 1 := by
  rw [C.wrap y hy]
  have p := C.pos y M C.one (Int.le_refl _)
  by_cases h : m = M
  · rw [h]; omega
  · have := C.within hy h1 (show m < M by omega) (Int.le_refl _); omega
theorem years (C : Cal M jd len ok) {y m : Int} (hy : ok y) (h1 : 1 ≤ m) (h2 : m ≤ M) : ∀ t : Nat, ok (y + 1 + t) ∧ jd y m + len y m ≤ jd (y + 1 + t) 1 := by
  intro t
  induction t with
  | zero =>
    have e : y + 1 + ((0 : Nat) : Int) = y + 1 := by omega
    rw [e]; exact ⟨C.next y hy, C.year hy h1 h2⟩
  | succ t ih =>
    have e : y + 1 + ((t + 1 : Nat) : Int) = y + 1 + t + 1 := by omega
    rw [e]
    have a := C.year ih.1 (Int.le_refl 1) C.one
    have p := C.pos (y + 1 + t) 1 (Int.le_refl 1) C.one
    exact ⟨C.next _ ih.1, by have := ih.2; omega⟩
theorem before (C : Cal M jd len ok) {y m y' m' : Int} (hy : ok y) (h1 : 1 ≤ m) (h2 : m ≤ M) (h1' : 1 ≤ m') (h2' : m' ≤ M) (h : y < y') : jd y m + len y m ≤ jd y' m' := by
  have a := C.years hy h1 h2 (y' - y - 1).toNat
  have e : y + 1 + ((y' - y - 1).toNat : Int) = y' := by omega
  rw [e] at a
  by_cases hm : m' = 1
  · rw [hm]; exact a.2
  · have b := C.within a.1 (Int.le_refl 1) (show 1 < m' by omega) h2'
    have p := C.pos y' 1 (Int.le_refl 1) C.one
    have := a.2; omega
theorem inj (C : Cal M jd len ok) {y m d y' m' d' : Int} (hy : ok y) (hy' : ok y') (h1 : 1 ≤ m) (h2 : m ≤ M) (h1' : 1 ≤ m') (h2' : m' ≤ M) (hd : 1 ≤ d) (hl : d ≤ len y m) (hd' : 1 ≤ d') (hl' : d' ≤ len y' m')
    (e : jd y m + d = jd y' m' + d') : y = y' ∧ m = m' ∧ d = d' := by
  rcases Int.lt_trichotomy y y' with h | h | h
  · have := C.before hy h1 h2 h1' h2' h; omega
  · subst h
    rcases Int.lt_trichotomy m m' with h | h | h
    · have := C.within hy h1 h h2'; omega
    · subst h; exact ⟨rfl, rfl, by omega⟩
    · have := C.within hy h1' h h2; omega
  · have := C.before hy' h1' h2' h1 h2 h; omega
end Cal

theorem months12 {m : Int} (h1 : 1 ≤ m) (h2 : m ≤ 12) : m = 1 ∨ m = 2 ∨ m = 3 ∨ m = 4 ∨ m = 5 ∨ m = 6 ∨ m = 7 ∨ m = 8 ∨ m = 9 ∨ m = 10 ∨ m = 11 ∨ m = 12 := by omega
theorem calG : Cal 12 jdG lenG (fun _ => True) where
  one := by decide
  pos := fun y m _ _ => by unfold lenG; repeat' split <;> omega
  inner := fun y m _ h1 h2 => by
    unfold jdG lenG short
    rw [toJdG_eq, toJdG_eq]
    rcases months12 h1 (by omega) with h | h | h | h | h | h | h | h | h | h | h | h <;> subst h <;> (cases leapG y) <;> simp <;> omega
  wrap := fun y _ => by
    unfold jdG lenG short
    rw [toJdG_eq, toJdG_eq]
    have h := leapG_iff y
    cases hl : leapG y <;> rw [hl] at h <;> simp at h <;> simp <;> omega
  next := fun _ _ => trivial
theorem calJ : Cal 12 jdJ lenJ (fun _ => True) where
  one := by decide
  pos := fun y m _ _ => by unfold lenJ; repeat' split <;> omega
  inner := fun y m _ h1 h2 => by
    unfold jdJ lenJ short
    by_cases hl : y % 4 = 0 <;> (rcases months12 h1 (by omega) with h | h | h | h | h | h | h | h | h | h | h | h <;> subst h <;> simp [hl] <;> omega)
  wrap := fun y _ => by
    unfold jdJ lenJ short
    by_cases hl : y % 4 = 0 <;> simp [hl] <;> omega
  next := fun _ _ => trivial
theorem calI : Cal 12 jdI lenI (fun _ => True) where
  one := by decide
  pos := fun y m _ _ => by unfold lenI; split <;> omega
  inner := fun y m _ h1 h2 => by
    unfold jdI lenI
    split <;> omega
  wrap := fun y _ => by
    unfold jdI lenI
    rw [show 3 + 11 * (y + 1) = y * 11 + 14 by omega, show 3 + 11 * y = y * 11 + 14 - 11 by omega]
    generalize y * 11 + 14 = z
    split <;> omega
  next := fun _ _ => trivial
theorem calC : Cal 13 jdC lenC (fun _ => True) where
  one := by decide
  pos := fun y m _ _ => by unfold lenC; repeat' split <;> omega
  inner := fun y m _ h1 h2 => by unfold jdC lenC; rw [if_pos (by omega)]; omega
  wrap := fun y _ => by unfold jdC lenC; rw [if_neg (by omega)]; split <;> omega
  next := fun _ _ => trivial
theorem calA : Cal 13 jdA lenA (fun _ => True) where
  one := by decide
  pos := fun y m _ _ => by unfold lenA; split <;> omega
  inner := fun y m _ h1 h2 => by unfold jdA lenA; rw [if_neg (by omega)]; omega
  wrap := fun y _ => by unfold jdA lenA; rw [if_pos rfl]; omega
  next := fun _ _ => trivial
theorem calS : Cal 13 jdS lenS (fun y => 533 ≤ y) where
  one := by decide
  pos := fun y m _ _ => by unfold lenS; repeat' split <;> omega
  inner := fun y m _ h1 h2 => by unfold jdS lenS; rw [if_neg (by omega)]; omega
  wrap := fun y hy => by unfold jdS lenS; rw [if_pos rfl]; split <;> omega
  next := fun y hy => by omega

def jdK (k : Int) : Int → Int → Int := if k = 0 then jdG else if k = 1 then jdJ else if k = 2 then jdI else if k = 3 then jdC else if k = 4 then jdA else jdS
def lenK (k : Int) : Int → Int → Int := if k = 0 then lenG else if k = 1 then lenJ else if k = 2 then lenI else if k = 3 then lenC else if k = 4 then lenA else lenS
def topK (k : Int) : Int := if k < 3 then 12 else 13
def okK (k y : Int) : Prop := k = 5 → 533 ≤ y
theorem calK {k : Int} (h0 : 0 ≤ k) (h5 : k ≤ 5) : Cal (topK k) (jdK k) (lenK k) (okK k) := by
  have h : k = 0 ∨ k = 1 ∨ k = 2 ∨ k = 3 ∨ k = 4 ∨ k = 5 := by omega
  rcases h with h | h | h | h | h | h <;> subst h
  · exact ⟨calG.one, calG.pos, fun y m _ => calG.inner y m trivial, fun y _ => calG.wrap y trivial, fun y _ => fun h => by omega⟩
  · exact ⟨calJ.one, calJ.pos, fun y m _ => calJ.inner y m trivial, fun y _ => calJ.wrap y trivial, fun y _ => fun h => by omega⟩
  · exact ⟨calI.one, calI.pos, fun y m _ => calI.inner y m trivial, fun y _ => calI.wrap y trivial, fun y _ => fun h => by omega⟩
  · exact ⟨calC.one, calC.pos, fun y m _ => calC.inner y m trivial, fun y _ => calC.wrap y trivial, fun y _ => fun h => by omega⟩
  · exact ⟨calA.one, calA.pos, fun y m _ => calA.inner y m trivial, fun y _ => calA.wrap y trivial, fun y _ => fun h => by omega⟩
  · exact ⟨calS.one, calS.pos, fun y m h => calS.inner y m (h rfl), fun y h => calS.wrap y (h rfl), fun y h => fun _ => by have := h rfl; omega⟩

/-- (y, m, d) is a date of calendar k, and its day number is n -/
def IsD (k n y m d : Int) : Prop := 1 ≤ m ∧ m ≤ topK k ∧ 1 ≤ d ∧ d ≤ lenK k y m ∧ jdK k y m + d = n ∧ okK k y
/-- what holds between the turns of the law's while -/
def Inv (k number days left rest y m d : Int) : Prop := (0 ≤ k ∧ k ≤ 5) ∧ IsD k (number + days - left) y m d ∧ 0 ≤ left ∧ rest = lenK k y m - d
theorem inv_start {k number days y m d : Int} (h0 : 0 ≤ k) (h5 : k ≤ 5) (hd : 0 ≤ days) (h : IsD k number y m d) : Inv k number days days (lenK k y m - d) y m d :=
  ⟨⟨h0, h5⟩, by have e : number + days - days = number := by omega
                rw [e]; exact h, hd, rfl⟩
theorem inv_rest {k number days left rest y m d : Int} (h : Inv k number days left rest y m d) : 0 ≤ rest := by
  obtain ⟨_, ⟨_, _, _, hl, _⟩, _, hr⟩ := h
  omega
theorem inv_top {k number days left rest y m d : Int} (h : Inv k number days left rest y m d) : 1 ≤ m ∧ m ≤ topK k := ⟨h.2.1.1, h.2.1.2.1⟩
theorem inv_next {k number days left rest y m d : Int} (h : Inv k number days left rest y m d) (hl : rest < left) (hm : m < topK k) :
    Inv k number days (left - (rest + 1)) (lenK k y (m + 1) - 1) y (m + 1) 1 := by
  obtain ⟨⟨h0, h5⟩, ⟨h1, h2, h3, h4, h6, h7⟩, hp, hr⟩ := h
  have C := calK h0 h5
  have e := C.inner y m h7 h1 hm
  have p := C.pos y (m + 1) (by omega) (by omega)
  exact ⟨⟨h0, h5⟩, ⟨by omega, by omega, by omega, by omega, by omega, h7⟩, by omega, rfl⟩
theorem inv_wrap {k number days left rest y m d : Int} (h : Inv k number days left rest y m d) (hl : rest < left) (hm : ¬ m < topK k) :
    Inv k number days (left - (rest + 1)) (lenK k (y + 1) 1 - 1) (y + 1) 1 1 := by
  obtain ⟨⟨h0, h5⟩, ⟨h1, h2, h3, h4, h6, h7⟩, hp, hr⟩ := h
  have C := calK h0 h5
  have e := C.wrap y h7
  have hM : m = topK k := by omega
  rw [hM] at h6 hr
  have p := C.pos (y + 1) 1 (by omega) C.one
  exact ⟨⟨h0, h5⟩, ⟨by omega, C.one, by omega, by omega, by omega, C.next y h7⟩, by omega, rfl⟩
def OkM (k m : Int) : Prop := 1 ≤ m ∧ m ≤ topK k
theorem okm_isd {k n y m d : Int} (h : IsD k n y m d) : OkM k m := ⟨h.1, h.2.1⟩
theorem okm_one {k : Int} : OkM k 1 := ⟨by decide, by unfold topK; split <;> decide⟩
theorem okm_next {k number days left rest y m d : Int} (h : Inv k number days left rest y m d) (hm : (k < 3 ∧ ¬ 12 < m + 1) ∨ (3 ≤ k ∧ ¬ 13 < m + 1)) : OkM k (m + 1) := by
  have := inv_top h
  refine ⟨by omega, ?_⟩
  unfold topK
  split <;> omega
theorem inv_stay {k number days left rest y m d : Int} (h : Inv k number days left rest y m d) (hl : rest < left) (hm : (k < 3 ∧ ¬ 12 < m + 1) ∨ (3 ≤ k ∧ ¬ 13 < m + 1)) :
    Inv k number days (left - (rest + 1)) (lenK k y (m + 1) - 1) y (m + 1) 1 := inv_next h hl (by unfold topK; split <;> omega)
theorem inv_over {k number days left rest y m d : Int} (h : Inv k number days left rest y m d) (hl : rest < left) (hm : (k < 3 ∧ 12 < m + 1) ∨ (3 ≤ k ∧ 13 < m + 1)) :
    Inv k number days (left - (rest + 1)) (lenK k (y + 1) 1 - 1) (y + 1) 1 1 := inv_wrap h hl (by unfold topK; split <;> omega)
theorem inv_less {k number days left rest y m d : Int} (h : Inv k number days left rest y m d) (hl : rest < left) : (left - (rest + 1)).toNat < left.toNat := by
  have := inv_rest h
  omega
theorem inv_end {k number days left rest y m d y' m' d' : Int} (h : Inv k number days left rest y m d) (hl : ¬ rest < left) (h' : IsD k (number + days) y' m' d') : y' = y ∧ m' = m ∧ d' = d + left := by
  obtain ⟨⟨h0, h5⟩, ⟨h1, h2, h3, h4, h6, h7⟩, hp, hr⟩ := h
  obtain ⟨g1, g2, g3, g4, g6, g7⟩ := h'
  have C := calK h0 h5
  exact C.inj g7 h7 g1 g2 h1 h2 g3 g4 (by omega) (by omega) (by omega)
theorem yd_pos {n : Int} (_h : 2117600 ≤ n) : 0 ≤ n - 2117211 - (365 * (4 * (n - 2117211)).fdiv 1461 + ((4 * (n - 2117211)).fdiv 1461).fdiv 4) := by
  rw [fd _ (by decide : (0 : Int) ≤ 1461), fd _ (by decide : (0 : Int) ≤ 4)]
  omega
theorem fm_pos (a : Int) {b : Int} (h : 0 < b) : 0 ≤ a.fmod b := by rw [fm a (by omega)]; exact Int.emod_nonneg a (by omega)
theorem fd_pos {a b : Int} (ha : 0 ≤ a) (h : 0 ≤ b) : 0 ≤ a.fdiv b := by rw [fd a h]; exact Int.ediv_nonneg ha h

-- the Gregorian calendar
abbrev y0 (n : Int) : Int := (n - 1721426).fdiv 146097 * 400 + ((n - 1721426).fmod 146097).fdiv 36524 * 100 + (((n - 1721426).fmod 146097).fmod 36524).fdiv 1461 * 4 + ((((n - 1721426).fmod 146097).fmod 36524).fmod 1461).fdiv 365
/-- the day of the year lies within the year -/
def InY (n y : Int) : Prop := 0 ≤ n - toJdG y 1 ∧ n - toJdG y 1 ≤ 364 + (if leapG y = true then 1 else 0)
theorem g_cyc (n : Int) : ∃ q c k j e : Int, n = 1721426 + 146097 * q + 36524 * c + 1461 * k + 365 * j + e ∧ y0 n = q * 400 + c * 100 + k * 4 + j ∧ ((n - 1721426).fmod 146097).fdiv 36524 = c ∧ ((((n - 1721426).fmod 146097).fmod 36524).fmod 1461).fdiv 365 = j ∧
    0 ≤ c ∧ 0 ≤ 36524 * c + 1461 * k + 365 * j + e ∧ 36524 * c + 1461 * k + 365 * j + e < 146097 ∧ 0 ≤ k ∧ 1461 * k + 365 * j + e < 36524 ∧ 0 ≤ j ∧ 365 * j + e < 1461 ∧ 0 ≤ e ∧ e < 365 := by
  refine ⟨(n - 1721426).fdiv 146097, ((n - 1721426).fmod 146097).fdiv 36524, (((n - 1721426).fmod 146097).fmod 36524).fdiv 1461, ((((n - 1721426).fmod 146097).fmod 36524).fmod 1461).fdiv 365, ((((n - 1721426).fmod 146097).fmod 36524).fmod 1461).fmod 365, ?_, rfl, rfl, rfl, ?_⟩
  all_goals
    simp only [fd _ (by decide : (0 : Int) ≤ 146097), fd _ (by decide : (0 : Int) ≤ 36524), fd _ (by decide : (0 : Int) ≤ 1461), fd _ (by decide : (0 : Int) ≤ 365),
      fm _ (by decide : (0 : Int) ≤ 146097), fm _ (by decide : (0 : Int) ≤ 36524), fm _ (by decide : (0 : Int) ≤ 1461), fm _ (by decide : (0 : Int) ≤ 365)]
    omega
theorem toJdG_one (y : Int) : toJdG y 1 = 1721426 + 365 * (y - 1) + (y - 1) / 4 - (y - 1) / 100 + (y - 1) / 400 := by
  rw [toJdG_eq, if_pos (by decide)]
  omega
theorem g_y4 {n : Int} (h : ((n - 1721426).fmod 146097).fdiv 36524 = 4) : InY n (y0 n) := by
  obtain ⟨q, c, k, j, e, hn, hy, hc, hj, h1, h2, h3, h4, h5, h6, h7, h8, h9⟩ := g_cyc n
  rw [h] at hc
  have hk : k = 0 := by omega
  have hj0 : j = 0 := by omega
  have hl : leapG (y0 n) = true := (leapG_iff _).mpr (by rw [hy]; omega)
  unfold InY
  rw [if_pos hl, toJdG_one, hy]
  omega
theorem g_j4 {n : Int} (hc4 : ((n - 1721426).fmod 146097).fdiv 36524 ≠ 4) (h : ((((n - 1721426).fmod 146097).fmod 36524).fmod 1461).fdiv 365 = 4) : InY n (y0 n) := by
  obtain ⟨q, c, k, j, e, hn, hy, hc, hj, h1, h2, h3, h4, h5, h6, h7, h8, h9⟩ := g_cyc n
  rw [h] at hj
  rw [hc] at hc4
  have hk : k ≤ 23 := by omega
  have hc3 : c ≤ 3 := by omega
  have hl : leapG (y0 n) = true := (leapG_iff _).mpr (by rw [hy]; omega)
  have d1 : (q * 400 + c * 100 + k * 4 + j - 1) / 4 = q * 100 + c * 25 + k := by omega
  have d2 : (q * 400 + c * 100 + k * 4 + j - 1) / 100 = q * 4 + c := by omega
  have d3 : (q * 400 + c * 100 + k * 4 + j - 1) / 400 = q := by omega
  unfold InY
  rw [if_pos hl, toJdG_one, hy, d1, d2, d3]
  omega
theorem g_y {n : Int} (hc4 : ((n - 1721426).fmod 146097).fdiv 36524 ≠ 4) (hj4 : ((((n - 1721426).fmod 146097).fmod 36524).fmod 1461).fdiv 365 ≠ 4) : InY n (y0 n + 1) := by
  obtain ⟨q, c, k, j, e, hn, hy, hc, hj, h1, h2, h3, h4, h5, h6, h7, h8, h9⟩ := g_cyc n
  rw [hc] at hc4
  rw [hj] at hj4
  have hj3 : j ≤ 3 := by omega
  have hc3 : c ≤ 3 := by omega
  have hk : k ≤ 24 := by omega
  have d1 : (q * 400 + c * 100 + k * 4 + j + 1 - 1) / 4 = q * 100 + c * 25 + k := by omega
  have d2 : (q * 400 + c * 100 + k * 4 + j + 1 - 1) / 100 = q * 4 + c := by omega
  have d3 : (q * 400 + c * 100 + k * 4 + j + 1 - 1) / 400 = q := by omega
  have e1 : toJdG (y0 n + 1) 1 = n - e := by
    rw [toJdG_one, hy, d1, d2, d3]
    omega
  unfold InY
  rw [e1]
  split <;> omega
/-- what is added ahead of the months' division -/
abbrev Adj (n y a : Int) : Prop := (n - toJdG y 1 < 58 + (if leapG y = true then 1 else 0) ∧ a = 0) ∨ (¬ n - toJdG y 1 < 58 + (if leapG y = true then 1 else 0) ∧ leapG y = true ∧ a = 1) ∨ (¬ n - toJdG y 1 < 58 + (if leapG y = true then 1 else 0) ∧ leapG y = false ∧ a = 2)
theorem g_fin {n y a : Int} (h : InY n y) (ha : Adj n y a) :
    IsD 0 n y (((n - toJdG y 1 + a) * 12 + 373).fdiv 367) (n - toJdG y (((n - toJdG y 1 + a) * 12 + 373).fdiv 367) + 1) := by
  rw [fd _ (by decide : (0 : Int) ≤ 367)]
  unfold InY at h
  unfold Adj at ha
  obtain ⟨h1, h2⟩ := h
  have em : ∀ m : Int, toJdG y m = toJdG y 1 + ((367 * m - 362) / 12 + (if m ≤ 2 then 0 else if leapG y = true then -1 else -2)) := by
    intro m
    rw [toJdG_one, toJdG_eq]
    omega
  generalize hm : ((n - toJdG y 1 + a) * 12 + 373) / 367 = m
  rw [em m]
  have hr : 1 ≤ m ∧ m ≤ 12 := by
    cases hl : leapG y <;> rw [hl] at h2 ha <;> simp at h2 ha <;> omega
  refine ⟨hr.1, hr.2, ?_, ?_, ?_, fun h => absurd h (by decide)⟩
  · generalize toJdG y 1 = J at *
    cases hl : leapG y <;> rw [hl] at h2 ha <;> simp at h2 ha ⊢ <;> (rcases months12 hr.1 hr.2 with e | e | e | e | e | e | e | e | e | e | e | e <;> subst e <;> simp <;> omega)
  · show _ ≤ lenG y m
    unfold lenG short
    generalize toJdG y 1 = J at *
    cases hl : leapG y <;> rw [hl] at h2 ha <;> simp at h2 ha ⊢ <;> (rcases months12 hr.1 hr.2 with e | e | e | e | e | e | e | e | e | e | e | e <;> subst e <;> simp <;> omega)
  · show jdG y m + _ = n
    unfold jdG
    rw [em m]
    omega

-- the Julian calendar
theorem jul (n : Int) : ∃ c f e r : Int, (20 * (n + 1524) - 2442).fdiv 7305 = c ∧ (1461 * c).fdiv 4 = f ∧ ((n + 1524 - f) * 10000).fdiv 306001 = e ∧ (306001 * e).fdiv 10000 = r ∧
    7305 * c ≤ 20 * (n + 1524) - 2442 ∧ 20 * (n + 1524) - 2442 < 7305 * c + 7305 ∧ f = 1461 * c / 4 ∧ 306001 * e ≤ (n + 1524 - f) * 10000 ∧ (n + 1524 - f) * 10000 < 306001 * e + 306001 ∧ r = 306001 * e / 10000 ∧ 4 ≤ e ∧ e ≤ 15 := by
  refine ⟨_, _, _, _, rfl, rfl, rfl, rfl, ?_⟩
  rw [fd _ (by decide : (0 : Int) ≤ 7305), fd _ (by decide : (0 : Int) ≤ 4), fd _ (by decide : (0 : Int) ≤ 306001), fd _ (by decide : (0 : Int) ≤ 10000)]
  omega
theorem e15 {e : Int} (h1 : 4 ≤ e) (h2 : e ≤ 15) : e = 4 ∨ e = 5 ∨ e = 6 ∨ e = 7 ∨ e = 8 ∨ e = 9 ∨ e = 10 ∨ e = 11 ∨ e = 12 ∨ e = 13 ∨ e = 14 ∨ e = 15 := by omega
theorem jul_core {n c f e r y m : Int} (h5 : 7305 * c ≤ 20 * (n + 1524) - 2442) (h6 : 20 * (n + 1524) - 2442 < 7305 * c + 7305) (h7 : f = 1461 * c / 4) (h8 : 306001 * e ≤ (n + 1524 - f) * 10000) (h9 : (n + 1524 - f) * 10000 < 306001 * e + 306001) (h10 : r = 306001 * e / 10000)
    (h11 : 4 ≤ e) (h12 : e ≤ 15) (hm : (e < 14 ∧ m = e - 1 ∧ y = c - 4716) ∨ (¬ e < 14 ∧ m = e - 13 ∧ y = c - 4715)) : IsD 1 n y m (n + 1524 - f - r) := by
  show _ ∧ _ ∧ _ ∧ _ ≤ lenJ _ _ ∧ jdJ _ _ + _ = _ ∧ _
  unfold lenJ jdJ short topK
  obtain ⟨t, s, hc, hs⟩ : ∃ t s : Int, c = 4 * t + s ∧ (s = 0 ∨ s = 1 ∨ s = 2 ∨ s = 3) := ⟨c / 4, c % 4, by omega, by omega⟩
  have hf : f = 1461 * t + 1461 * s / 4 := by omega
  subst hc
  rcases e15 h11 h12 with e | e | e | e | e | e | e | e | e | e | e | e <;> subst e <;> rcases hm with ⟨hm, h, h'⟩ | ⟨hm, h, h'⟩ <;> (first | (exfalso; omega) | skip) <;> subst h h' <;>
    (rcases hs with e | e | e | e <;> subst e <;> refine ⟨by decide, by decide, ?_, ?_, ?_, fun h => absurd h (by decide)⟩ <;> (try simp) <;> (repeat' split) <;> omega)
theorem jul_a {k n : Int} (hk : k = 1) (he : ((n + 1524 - (1461 * (20 * (n + 1524) - 2442).fdiv 7305).fdiv 4) * 10000).fdiv 306001 < 14) :
    IsD k n ((20 * (n + 1524) - 2442).fdiv 7305 - 4716) (((n + 1524 - (1461 * (20 * (n + 1524) - 2442).fdiv 7305).fdiv 4) * 10000).fdiv 306001 - 1)
      (n + 1524 - (1461 * (20 * (n + 1524) - 2442).fdiv 7305).fdiv 4 - (306001 * ((n + 1524 - (1461 * (20 * (n + 1524) - 2442).fdiv 7305).fdiv 4) * 10000).fdiv 306001).fdiv 10000) := by
  subst hk
  obtain ⟨c, f, e, r, h1, h2, h3, h4, h5, h6, h7, h8, h9, h10, h11, h12⟩ := jul n
  rw [h1, h2, h3] at he ⊢
  rw [h4]
  exact jul_core h5 h6 h7 h8 h9 h10 h11 h12 (.inl ⟨he, rfl, rfl⟩)
theorem jul_b {k n : Int} (hk : k = 1) (he : ¬ ((n + 1524 - (1461 * (20 * (n + 1524) - 2442).fdiv 7305).fdiv 4) * 10000).fdiv 306001 < 14) :
    IsD k n ((20 * (n + 1524) - 2442).fdiv 7305 - 4715) (((n + 1524 - (1461 * (20 * (n + 1524) - 2442).fdiv 7305).fdiv 4) * 10000).fdiv 306001 - 13)
      (n + 1524 - (1461 * (20 * (n + 1524) - 2442).fdiv 7305).fdiv 4 - (306001 * ((n + 1524 - (1461 * (20 * (n + 1524) - 2442).fdiv 7305).fdiv 4) * 10000).fdiv 306001).fdiv 10000) := by
  subst hk
  obtain ⟨c, f, e, r, h1, h2, h3, h4, h5, h6, h7, h8, h9, h10, h11, h12⟩ := jul n
  rw [h1, h2, h3] at he ⊢
  rw [h4]
  exact jul_core h5 h6 h7 h8 h9 h10 h11 h12 (.inr ⟨he, rfl, rfl⟩)

-- the Islamic calendar
abbrev jdI1 (y m d : Int) : Int := d + -(-59 * (m - 1)).fdiv 2 + (y - 1) * 354 + (3 + 11 * y).fdiv 30 + 1948440 - 1
abbrev yI (n : Int) : Int := (30 * (n - 1948440) + 10646).fdiv 10631
abbrev mI (n : Int) : Int := -(-2 * (n - (29 + jdI1 (yI n) 1 1))).fdiv 59 + 1
theorem s19 {s : Int} (h0 : 0 ≤ s) (h : s ≤ 29) : (s + 11) % 30 < 11 ↔ 19 ≤ s := by omega
theorem isl_year (n : Int) : ∃ y : Int, yI n = y ∧ 0 ≤ n - (y - 1) * 354 - (3 + 11 * y) / 30 - 1948440 ∧ n - (y - 1) * 354 - (3 + 11 * y) / 30 - 1948440 ≤ 353 + (if (y * 11 + 14) % 30 < 11 then 1 else 0) := by
  refine ⟨_, rfl, ?_⟩
  unfold yI
  rw [fd _ (by decide : (0 : Int) ≤ 10631)]
  generalize hx : n - 1948440 = x
  have hn : n = x + 1948440 := by omega
  subst hn
  generalize hy : (30 * x + 10646) / 10631 = y
  have h1 : 10631 * y ≤ 30 * x + 10646 := by omega
  have h2 : 30 * x + 10646 < 10631 * y + 10631 := by omega
  clear hy hx
  obtain ⟨t, s, hs, h3, h4⟩ : ∃ t s : Int, 11 * y + 3 = 30 * t + s ∧ 0 ≤ s ∧ s ≤ 29 := ⟨(11 * y + 3) / 30, (11 * y + 3) % 30, by omega, by omega, by omega⟩
  have e1 : (3 + 11 * y) / 30 = t := by omega
  rw [e1, show y * 11 + 14 = 30 * t + (s + 11) by omega, Int.mul_add_emod_self_left]
  clear e1
  by_cases hl : (s + 11) % 30 < 11
  · rw [if_pos hl]
    have := (s19 h3 h4).mp hl
    clear hl
    omega
  · rw [if_neg hl]
    have : ¬ 19 ≤ s := fun h => hl ((s19 h3 h4).mpr h)
    clear hl
    omega
theorem fdI (m : Int) : (-59 * (m - 1)).fdiv 2 = (-59 * (m - 1)) / 2 := fd _ (by decide)
theorem jdI1_eq (y m d : Int) : jdI1 y m d = jdI y m + d := by
  unfold jdI1 jdI
  rw [fd _ (by decide : (0 : Int) ≤ 2), fd _ (by decide : (0 : Int) ≤ 30)]
  omega
theorem isl {k n : Int} (hk : k = 2) : IsD k n (yI n) (if mI n < 12 then mI n else 12) (n - jdI1 (yI n) (if mI n < 12 then mI n else 12) 1 + 1) := by
  subst hk
  obtain ⟨y, hy, h1, h2⟩ := isl_year n
  unfold mI
  rw [hy]
  simp only [jdI1_eq]
  rw [fd _ (by decide : (0 : Int) ≤ 59)]
  have e1 : jdI y 1 + 1 = (y - 1) * 354 + (3 + 11 * y) / 30 + 1948440 := by unfold jdI; omega
  have em : ∀ m : Int, jdI y m = jdI y 1 + -((-59 * (m - 1)) / 2) := by intro m; unfold jdI; omega
  rw [e1]
  generalize hm : (if -(-2 * (n - (29 + ((y - 1) * 354 + (3 + 11 * y) / 30 + 1948440))) / 59) + 1 < 12 then -(-2 * (n - (29 + ((y - 1) * 354 + (3 + 11 * y) / 30 + 1948440))) / 59) + 1 else 12) = m
  rw [em m]
  show _ ∧ _ ∧ _ ∧ _ ≤ lenI _ _ ∧ jdI _ _ + _ = _ ∧ _
  rw [em m]
  unfold lenI topK
  generalize (3 + 11 * y) / 30 = t at *
  generalize jdI y 1 = J at *
  by_cases hl : (y * 11 + 14) % 30 < 11
  · rw [if_pos hl] at h2
    have hr : 1 ≤ m ∧ m ≤ 12 := by split at hm <;> omega
    refine ⟨hr.1, by simp; exact hr.2, ?_, ?_, by omega, fun h => absurd h (by decide)⟩ <;>
      (rcases months12 hr.1 hr.2 with e | e | e | e | e | e | e | e | e | e | e | e <;> subst e <;> simp [hl] <;> split at hm <;> omega)
  · rw [if_neg hl] at h2
    have hr : 1 ≤ m ∧ m ≤ 12 := by split at hm <;> omega
    refine ⟨hr.1, by simp; exact hr.2, ?_, ?_, by omega, fun h => absurd h (by decide)⟩ <;>
      (rcases months12 hr.1 hr.2 with e | e | e | e | e | e | e | e | e | e | e | e <;> subst e <;> simp [hl] <;> split at hm <;> omega)

-- the Coptic calendar
abbrev yC (n : Int) : Int := (4 * (n - 1825030) + 1463).fdiv 1461
abbrev dC (n : Int) : Int := n - (1 + (1 - 1) * 30 + (yC n - 1) * 365 + (yC n).fdiv 4 + 1825030 - 1)
theorem cop {k n : Int} (hk : k = 3) : IsD k n (yC n) ((dC n).fdiv 30 + 1) (dC n - ((dC n).fdiv 30 + 1 - 1) * 30 + 1) := by
  subst hk
  have hy : ∃ y : Int, yC n = y ∧ 1461 * y ≤ 4 * (n - 1825030) + 1463 ∧ 4 * (n - 1825030) + 1463 < 1461 * y + 1461 := by
    refine ⟨_, rfl, ?_⟩
    unfold yC
    rw [fd _ (by decide : (0 : Int) ≤ 1461)]
    omega
  obtain ⟨y, hy, h1, h2⟩ := hy
  have hd : ∃ z : Int, dC n = z ∧ z = n - (y - 1) * 365 - y / 4 - 1825030 := by
    refine ⟨_, rfl, ?_⟩
    unfold dC
    rw [hy, fd _ (by decide : (0 : Int) ≤ 4)]
    omega
  obtain ⟨z, hd, hz⟩ := hd
  rw [hy, hd, fd _ (by decide : (0 : Int) ≤ 30)]
  show _ ∧ _ ∧ _ ∧ _ ≤ lenC _ _ ∧ jdC _ _ + _ = _ ∧ _
  unfold lenC jdC topK
  obtain ⟨t, s, hc, hs⟩ : ∃ t s : Int, y = 4 * t + s ∧ (s = 0 ∨ s = 1 ∨ s = 2 ∨ s = 3) := ⟨y / 4, y % 4, by omega, by omega⟩
  have hq : y / 4 = t := by omega
  have hr : y % 4 = s := by omega
  rw [hq] at hz ⊢
  rw [hr]
  subst hc
  refine ⟨by omega, by simp; omega, by omega, ?_, by omega, fun h => absurd h (by decide)⟩
  rcases hs with e | e | e | e <;> subst e <;> (repeat' split) <;> omega

-- the Armenian calendars
theorem arm {k n : Int} (hk : k = 4) (_hn : 2117600 ≤ n) : IsD k n ((n - 1922502 - 1).fdiv 365) (((n - 1922502 - 1).fmod 365).fdiv 30 + 1) (n - 1922502 - 365 * (n - 1922502 - 1).fdiv 365 - 30 * ((n - 1922502 - 1).fmod 365).fdiv 30) := by
  subst hk
  rw [fd _ (by decide : (0 : Int) ≤ 365), fd _ (by decide : (0 : Int) ≤ 30), fm _ (by decide : (0 : Int) ≤ 365)]
  show _ ∧ _ ∧ _ ∧ _ ≤ lenA ((n - 1922502 - 1) / 365) _ ∧ jdA _ _ + _ = _ ∧ _
  unfold lenA jdA topK
  refine ⟨by omega, by simp; omega, by omega, ?_, by omega, fun h => absurd h (by decide)⟩
  split <;> omega
abbrev yS (n : Int) : Int := (4 * (n - 2117211)).fdiv 1461
abbrev dS (n : Int) : Int := n - 2117211 - (365 * yS n + (yS n).fdiv 4)
theorem yd1 {n : Int} (h : 2117600 ≤ n) (hz : dS n ≠ 0) : 0 ≤ dS n - 1 := by
  have := yd_pos h
  unfold dS yS at *
  omega
theorem sar {k n y z : Int} (hk : k = 5) (hn : 2117600 ≤ n) (h : (dS n ≠ 0 ∧ y = yS n ∧ z = dS n) ∨ (dS n = 0 ∧ y = yS n - 1 ∧ ((yS n).fmod 4 = 0 ∧ z = 366 ∨ (yS n).fmod 4 ≠ 0 ∧ z = 365))) : IsD k n (y + 533) ((z - 1).fdiv 30 + 1) (z - 30 * (z - 1).fdiv 30) := by
  subst hk
  have hy : ∃ w : Int, yS n = w ∧ 1461 * w ≤ 4 * (n - 2117211) ∧ 4 * (n - 2117211) < 1461 * w + 1461 := by
    refine ⟨_, rfl, ?_⟩
    unfold yS
    rw [fd _ (by decide : (0 : Int) ≤ 1461)]
    omega
  obtain ⟨w, hy, h1, h2⟩ := hy
  unfold dS at h
  rw [hy, fd _ (by decide : (0 : Int) ≤ 4), fm _ (by decide : (0 : Int) ≤ 4)] at h
  rw [fd _ (by decide : (0 : Int) ≤ 30)]
  obtain ⟨t, s, hc, hs⟩ : ∃ t s : Int, w = 4 * t + s ∧ (s = 0 ∨ s = 1 ∨ s = 2 ∨ s = 3) := ⟨w / 4, w % 4, by omega, by omega⟩
  have hq : w / 4 = t := by omega
  have hr : w % 4 = s := by omega
  rw [hq, hr] at h
  show _ ∧ _ ∧ _ ∧ _ ≤ lenS _ _ ∧ jdS _ _ + _ = _ ∧ _
  unfold lenS jdS topK
  have hyy : y = w ∨ y = w - 1 := by omega
  refine ⟨by omega, by simp; omega, by omega, ?_, ?_, fun _ => by omega⟩
  · rcases hs with e | e | e | e <;> subst e <;> (repeat' split) <;> omega
  · rcases hs with e | e | e | e <;> subst e <;> omega
inductive In1 (news : List (Addr × Obj)) : List Value → Int → Prop
  | mk {i : Int} {t : Tok} : In1 news [.int i t] i
inductive In2 (news : List (Addr × Obj)) : List Value → Int × Int → Prop
  | mk {i j : Int} {t u : Tok} : In2 news [.int i t, .int j u] (i, j)
inductive In21 (news : List (Addr × Obj)) : List Value → Int × Int → Prop
  | mk {i j : Int} {t u v : Tok} : In21 news [.int i t, .int j u, .int 1 v] (i, j)
inductive In3 (news : List (Addr × Obj)) : List Value → Int × Int × Int → Prop
  | mk {i j k : Int} {t u v : Tok} : In3 news [.int i t, .int j u, .int k v] (i, j, k)
abbrev tup3 (y m d : Int) (t u v : Tok) (c : Nat) : Obj := { cls := .type "tuple", data := .seq #[.int y t, .int m u, .int d v] c }
inductive OutT (P : Int → Int → Int → Prop) (news : List (Addr × Obj)) : Value → Prop
  | mk {a : Addr} {y m d : Int} {t u v : Tok} {c : Nat} : (a, tup3 y m d t u v c) ∈ news → P y m d → OutT P news (.ref a)
theorem tells_ok {D : Type} {prog : Program} {w : World} {K : Frag} {p : Program} {loose : List PySem.Str} {mean : ExcName → Option Value} {mg mb : PySem.Str → Option Value} {f : Addr} {c : ToldN D} {d : D}
    (h : c.Ok d → TellsN prog w K p loose mean mg mb f c d) : TellsN prog w K p loose mean mg mb f c d :=
  fun dp un gd cn cs a ccd cl outer A₀ base h₀ L m news s vs Q E B F X N T hk hR hok hd hu hret => h hok dp un gd cn cs a ccd cl outer A₀ base h₀ L m news s vs Q E B F X N T hk hR hok hd hu hret

abbrev cLeap : ToldN Int where
  Rel := In1
  Ok := fun _ => True
  size := fun _ => 1
  Tl := fun tl => tl = []
  Out := fun _ r d => ∃ _t : Tok, r = .bool (leapG d)
theorem leap_a {d : Int} (h4 : d.fmod 4 = 0) (h1 : d.fmod 100 ≠ 0) : ∃ _t : Tok, Value.bool (d.fmod 100 != 0) = .bool (leapG d) := ⟨0, by simp [leapG, h4, h1]⟩
theorem leap_b {d : Int} (h4 : d.fmod 4 = 0) (h1 : d.fmod 100 = 0) : ∃ _t : Tok, Value.bool (d.fmod 400 == 0) = .bool (leapG d) := ⟨0, by simp [leapG, h4, h1]⟩
theorem leap_c {d : Int} (h4 : d.fmod 4 ≠ 0) : ∃ _t : Tok, Value.bool (d.fmod 4 == 0) = .bool (leapG d) := ⟨0, by simp [leapG, h4]⟩

abbrev cLegal : ToldN (Int × Int) where
  Rel := In21
  Ok := fun _ => True
  size := fun _ => 2
  Tl := fun tl => tl = []
  Out := fun _ r _ => ∃ _t : Tok, r = .bool true
theorem true_out : ∃ _t : Tok, Value.bool true = .bool true := ⟨0, rfl⟩
theorem int_out {x y : Int} {t : Tok} (h : x = y) : ∃ t' : Tok, Value.int x t = .int y t' := ⟨t, by rw [h]⟩

abbrev cToJdG : ToldN (Int × Int) where
  Rel := In21
  Ok := fun _ => True
  size := fun _ => 3
  Tl := fun tl => tl = []
  Out := fun _ r d => ∃ t : Tok, r = .int (toJdG d.1 d.2) t
theorem jd_a {y m : Int} {t : Tok} (h : m ≤ 2) : ∃ t' : Tok, Value.int (1721426 - 1 + 365 * (y - 1) + (y - 1).fdiv 4 + -((y - 1).fdiv 100) + (y - 1).fdiv 400 + ((367 * m - 362).fdiv 12 + 0 + 1)) t = .int (toJdG y m) t' := int_out (by rw [toJdG, if_pos h])
theorem jd_b {y m : Int} {t : Tok} (h : ¬ m ≤ 2) (g : leapG y = true) : ∃ t' : Tok, Value.int (1721426 - 1 + 365 * (y - 1) + (y - 1).fdiv 4 + -((y - 1).fdiv 100) + (y - 1).fdiv 400 + ((367 * m - 362).fdiv 12 + -1 + 1)) t = .int (toJdG y m) t' := int_out (by rw [toJdG, if_neg h, if_pos g])
theorem jd_c {y m : Int} {t : Tok} (h : ¬ m ≤ 2) (g : leapG y = false) : ∃ t' : Tok, Value.int (1721426 - 1 + 365 * (y - 1) + (y - 1).fdiv 4 + -((y - 1).fdiv 100) + (y - 1).fdiv 400 + ((367 * m - 362).fdiv 12 + -2 + 1)) t = .int (toJdG y m) t' := int_out (by rw [toJdG, if_neg h, if_neg (by simp [g])])

abbrev cTrunc : ToldN (Int × Int) where
  Rel := In2
  Ok := fun d => 0 ≤ d.1 ∧ (d.2 = 4 ∨ d.2 = 30 ∨ d.2 = 365 ∨ d.2 = 1461)
  size := fun _ => 1
  Tl := fun tl => tl = []
  Out := fun _ r d => ∃ t : Tok, r = .int (d.1.fdiv d.2) t
theorem trunc_a {x b : Int} {t : Tok} (hx : 0 ≤ x) (hb : 0 < b) : ∃ t' : Tok, Value.int ((if x < 0 then -x else x).fdiv (if b < 0 then -b else b)) t = .int (x.fdiv b) t' :=
  int_out (by rw [if_neg (by omega), if_neg (by omega)])
theorem trunc_b {x b : Int} (hx : 0 ≤ x) (hb : 0 < b) (h : (decide (x < 0) == decide (b < 0)) = false) : False := by
  rw [decide_eq_false (by omega), decide_eq_false (by omega)] at h
  exact absurd h (by decide)
theorem ok_t {x b : Int} (h : 0 ≤ x) (hb : b = 4 ∨ b = 30 ∨ b = 365 ∨ b = 1461) : cTrunc.Ok (x, b) := ⟨h, hb⟩
abbrev cDateG : ToldN Int where
  Rel := In1
  Ok := fun n => 2117600 ≤ n
  size := fun _ => 4
  Tl := fun tl => ∃ p, tl = [p]
  Out := fun news r n => OutT (IsD 0 n) news r
abbrev cLenG : ToldN (Int × Int) where
  Rel := In2
  Ok := fun d => 1 ≤ d.2 ∧ d.2 ≤ 12
  size := fun _ => 4
  Tl := fun tl => tl = []
  Out := fun _ r d => ∃ t : Tok, r = .int (lenG d.1 d.2) t
abbrev cDate : ToldN (Int × Int) where
  Rel := In2
  Ok := fun d => (0 ≤ d.1 ∧ d.1 ≤ 5) ∧ 2117600 ≤ d.2
  size := fun _ => 6
  Tl := fun tl => ∃ p, tl = [p]
  Out := fun news r d => OutT (IsD d.1 d.2) news r
abbrev cLen : ToldN (Int × Int × Int) where
  Rel := In3
  Ok := fun d => (0 ≤ d.1 ∧ d.1 ≤ 5) ∧ 1 ≤ d.2.2 ∧ d.2.2 ≤ 13 ∧ (d.1 < 3 → d.2.2 ≤ 12)
  size := fun _ => 6
  Tl := fun tl => tl = []
  Out := fun _ r d => ∃ t : Tok, r = .int (lenK d.1 d.2.1 d.2.2) t
theorem ok_l {y m : Int} (h1 : 1 ≤ m) (h2 : m ≤ 12) : cLenG.Ok (y, m) := ⟨h1, h2⟩
theorem out_g {k n : Int} {L : List (Addr × Obj)} {r : Value} (h : k = 0) (ho : OutT (IsD 0 n) L r) : cDate.Out L r (k, n) := by subst h; exact ho
theorem len_ne {y m : Int} {t : Tok} (h1 : 1 ≤ m) (h2 : m ≤ 12) (h : m ≠ 2) : ∃ t' : Tok, Value.int ([0, 31, 28, 31, 30, 31, 30, 31, 31, 30, 31, 30, 31].getD m.toNat 0 + 0) t = .int (lenG y m) t' :=
  int_out (by rcases months12 h1 h2 with h | h | h | h | h | h | h | h | h | h | h | h <;> subst h <;> first | rfl | contradiction)
theorem len_1 {y m : Int} {t : Tok} (h : m = 2) (g : leapG y = true) : ∃ t' : Tok, Value.int ([0, 31, 28, 31, 30, 31, 30, 31, 31, 30, 31, 30, 31].getD m.toNat 0 + 1) t = .int (lenG y m) t' :=
  int_out (by subst h; unfold lenG; rw [if_pos rfl, if_pos g]; rfl)
theorem len_0 {y m : Int} {t : Tok} (h : m = 2) (g : leapG y = false) : ∃ t' : Tok, Value.int ([0, 31, 28, 31, 30, 31, 30, 31, 31, 30, 31, 30, 31].getD m.toNat 0 + 0) t = .int (lenG y m) t' :=
  int_out (by subst h; unfold lenG; rw [if_pos rfl, if_neg (by simp [g])]; rfl)

section
variable {k y m : Int} {t : Tok}
theorem lk0 (hk : k = 0) : ∃ t' : Tok, Value.int (lenG y m) t = .int (lenK k y m) t' := int_out (by subst hk; rfl)
theorem lk1 {v : Int} (hk : k = 1) (h : v = lenJ y m) : ∃ t' : Tok, Value.int v t = .int (lenK k y m) t' := int_out (by subst hk; exact h)
theorem lk2 {v : Int} (hk : k = 2) (h : v = lenI y m) : ∃ t' : Tok, Value.int v t = .int (lenK k y m) t' := int_out (by subst hk; exact h)
theorem lk3 {v : Int} (hk : k = 3) (h : v = lenC y m) : ∃ t' : Tok, Value.int v t = .int (lenK k y m) t' := int_out (by subst hk; exact h)
theorem lk4 {v : Int} (hk : k = 4) (h : v = lenA y m) : ∃ t' : Tok, Value.int v t = .int (lenK k y m) t' := int_out (by subst hk; exact h)
theorem lk5 {v : Int} (hk : k = 5) (h : v = lenS y m) : ∃ t' : Tok, Value.int v t = .int (lenK k y m) t' := int_out (by subst hk; exact h)
theorem any4 (m : Int) : ([4, 6, 9, 11].any fun x => x == m) = true ↔ short m := by
  unfold short
  simp
  omega
theorem lj1 (h : m = 2) (g : y.fmod 4 = 0) : 29 = lenJ y m := by rw [fm y (by decide : (0 : Int) ≤ 4)] at g; unfold lenJ; rw [if_pos h, if_pos g]
theorem lj2 (h : m = 2) (g : y.fmod 4 ≠ 0) : 28 = lenJ y m := by rw [fm y (by decide : (0 : Int) ≤ 4)] at g; unfold lenJ; rw [if_pos h, if_neg g]
theorem lj3 (h : m ≠ 2) (g : ([4, 6, 9, 11].any fun x => x == m) = true) : 30 = lenJ y m := by unfold lenJ; rw [if_neg h, if_pos ((any4 m).mp g)]
theorem lj4 (h : m ≠ 2) (g : ([4, 6, 9, 11].any fun x => x == m) = false) : 31 = lenJ y m := by unfold lenJ; rw [if_neg h, if_neg fun e => by rw [(any4 m).mpr e] at g; cases g]
theorem any6 (h1 : 1 ≤ m) (h2 : m ≤ 12) : ([1, 3, 5, 7, 9, 11].any fun x => x == m) = true ↔ m % 2 = 1 := by
  simp
  omega
theorem li1 (h1 : 1 ≤ m) (h2 : m ≤ 12) (g : ([1, 3, 5, 7, 9, 11].any fun x => x == m) = true) : 30 = lenI y m := by unfold lenI; rw [if_pos (.inl ((any6 h1 h2).mp g))]
theorem li2 (h : m = 12) (g : (y * 11 + 14).fmod 30 < 11) : 30 = lenI y m := by rw [fm _ (by decide : (0 : Int) ≤ 30)] at g; unfold lenI; rw [if_pos (.inr ⟨h, g⟩)]
theorem li3 (h : m = 12) (g : ¬ (y * 11 + 14).fmod 30 < 11) : 29 = lenI y m := by rw [fm _ (by decide : (0 : Int) ≤ 30)] at g; unfold lenI; rw [if_neg (by omega)]
theorem li4 (h1 : 1 ≤ m) (h2 : m ≤ 12) (g : ([1, 3, 5, 7, 9, 11].any fun x => x == m) = false) (h : m ≠ 12) : 29 = lenI y m := by
  have e : ¬ m % 2 = 1 := fun e => by rw [(any6 h1 h2).mpr e] at g; cases g
  unfold lenI; rw [if_neg (by omega)]
theorem lc1 (h : m ≤ 12) : 30 = lenC y m := by unfold lenC; rw [if_pos h]
theorem lc2 (h : m = 13) (g : (if y.fmod 4 = 3 then y.fmod 4 == 3 else y.fmod 4 == -1) = true) : 6 = lenC y m := by
  rw [fm y (by decide : (0 : Int) ≤ 4)] at g
  unfold lenC
  have e : y % 4 = 3 := by
    by_cases e : y % 4 = 3
    · exact e
    · rw [if_neg e] at g
      have := beq_iff_eq.mp g
      omega
  rw [if_neg (by omega), if_pos e]
theorem lc3 (h : m = 13) (g : (if y.fmod 4 = 3 then y.fmod 4 == 3 else y.fmod 4 == -1) = false) : 5 = lenC y m := by
  rw [fm y (by decide : (0 : Int) ≤ 4)] at g
  unfold lenC
  rw [if_neg (by omega), if_neg fun e => by rw [if_pos e, e] at g; cases g]
theorem la1 (h : m = 13) : 5 = lenA y m := by unfold lenA; rw [if_pos h]
theorem la2 (h : m ≠ 13) : 30 = lenA y m := by unfold lenA; rw [if_neg h]
theorem ls1 (h : m = 13) (g : y < 533) : 5 = lenS y m := by unfold lenS; rw [if_pos h, if_neg (by omega)]
theorem ls2 (h : m = 13) (g : ¬ y < 533) (e : y.fmod 4 = 0) : 6 = lenS y m := by rw [fm y (by decide : (0 : Int) ≤ 4)] at e; unfold lenS; rw [if_pos h, if_pos (by omega)]
theorem ls3 (h : m = 13) (e : y.fmod 4 ≠ 0) : 5 = lenS y m := by rw [fm y (by decide : (0 : Int) ≤ 4)] at e; unfold lenS; rw [if_pos h, if_neg (by omega)]
theorem ls4 (h : m ≠ 13) : 30 = lenS y m := by unfold lenS; rw [if_neg h]
end

theorem in_tupK {prog : Program} {w : World} {A : Around} {E : Value → Shared → Prop} {s : Shared} {K : Frag} {h₀ : Heap} {L a : Addr} {m : PySem.Str → Option Value} {x : Int} {u : Tok} {n : Nat} {dd : Option Addr} {sl : Array (Option Value)} {l : List Value} {ns : List Int} {Q : Value → Shared → Prop}
    (F : Fr h₀ L s.heap m) (X₀ : K.In h₀) (hl : K.lookup a = some ⟨.type "tuple", dd, .seq l.toArray n, sl⟩) (hi : IntsAre l ns) (h : Q (.bool (ns.any (· == x))) s) : wpAny (model prog w) A (compareOp .In (.int x u) (.ref a)) Q E s :=
  in_tuple_ints (tupK (X₀.keeps F.keep) hl) (by simpa using hi) h
section
variable {prog : Program} {w : World} {K : Frag} {p : Program} {loose : List PySem.Str} {mean : ExcName → Option Value} {mg mb : PySem.Str → Option Value} {f : Addr} {dp un : Nat} {gd : Option (List Code)} {cn : PySem.Str} {cs : PySem.Scope} {a : Addr} {ccd : Value} {cl : List (PySem.Str × Addr)} {outer : List Env} {A₀ : Around} {base h₀ : Heap} {L : Addr} {m' : PySem.Str → Option Value} {news : List (Addr × Obj)} {s : Shared} {Q E : Value → Shared → Prop}
theorem use_date (C : ∀ d, TellsN prog w K p loose mean mg mb f cDate d) (B : Below A₀ base outer h₀) (F : Fr h₀ L s.heap m') (X : K.In h₀) (N : News h₀ L s.heap news) (T : Top p loose mean mg mb h₀) (hk : cs.kind = .function)
    {k n : Int} {t u : Tok} (h0 : 0 ≤ k) (h5 : k ≤ 5) (hn : 2117600 ≤ n) (hd : dp + 6 < recursionLimit) (hu : un + 8 * 6 < cLine)
    (ret : ∀ (a : Addr) (y m d : Int) (t1 t2 t3 : Tok) (c : Nat) (h' : Heap) (tk' : Nat), Fr h₀ L h' m' → News h₀ L h' ((a, tup3 y m d t1 t2 t3 c) :: news) → IsD k n y m d → Q (.ref a) { s with heap := h', toks := tk' }) :
    wpAny (model prog w) (ktrTop dp un gd cn cs L a ccd cl outer) (call (.ref f) [.int k t, .int n u]) Q E s :=
  tellsN_use B F X N T hk In2.mk (C (k, n)) ⟨⟨h0, h5⟩, hn⟩ hd hu fun r tl h' tk' F' N' _ _ ho => by
    obtain ⟨hm, hP⟩ := ho
    exact ret _ _ _ _ _ _ _ _ h' tk' F' (fun q hq => (List.mem_cons.mp hq).elim (fun e => e ▸ N' _ hm) fun hq => N' q (List.mem_append.mpr (.inl hq))) hP
theorem use_len (C : ∀ d, TellsN prog w K p loose mean mg mb f cLen d) (B : Below A₀ base outer h₀) (F : Fr h₀ L s.heap m') (X : K.In h₀) (N : News h₀ L s.heap news) (T : Top p loose mean mg mb h₀) (hk : cs.kind = .function)
    {k y m : Int} {t u v : Tok} (h0 : 0 ≤ k) (h5 : k ≤ 5) (hm : OkM k m) (hd : dp + 6 < recursionLimit) (hu : un + 8 * 6 < cLine)
    (ret : ∀ (t : Tok) (h' : Heap) (tk' : Nat), Fr h₀ L h' m' → News h₀ L h' news → Q (.int (lenK k y m) t) { s with heap := h', toks := tk' }) :
    wpAny (model prog w) (ktrTop dp un gd cn cs L a ccd cl outer) (call (.ref f) [.int k t, .int y u, .int m v]) Q E s :=
  tellsN_use B F X N T hk In3.mk (C (k, y, m)) ⟨⟨h0, h5⟩, hm.1, Int.le_trans hm.2 (by unfold topK; split <;> omega), fun h => by have := hm.2; unfold topK at this; rw [if_pos h] at this; exact this⟩ hd hu fun r tl h' tk' F' N' _ _ ho => by
    obtain ⟨t, rfl⟩ := ho
    exact ret t h' tk' F' (fun q hq => N' q (List.mem_append.mpr (.inl hq)))
theorem fd_letter {prog : Program} {w : World} {A : Around} {E : Value → Shared → Prop} {s : Shared} {x b : Int} {t u : Tok} {Q : Value → Shared → Prop} (hb : b ≠ 0) (hp : Builtin.divisionGoesByPylong x b = false)
    (h : ∀ q : Int, q = x.fdiv b → Q (.int q s.toks) { s with toks := s.toks + 1 }) : wpAny (model prog w) A (binaryOp .FloorDiv (.int x t) (.int b u)) Q E s := floordiv_int hb (h _ rfl) (.inl hp)
theorem fm_letter {prog : Program} {w : World} {A : Around} {E : Value → Shared → Prop} {s : Shared} {x b : Int} {t u : Tok} {Q : Value → Shared → Prop} (hb : b ≠ 0)
    (h : ∀ q : Int, q = x.fmod b → Q (.int q s.toks) { s with toks := s.toks + 1 }) : wpAny (model prog w) A (binaryOp .Mod (.int x t) (.int b u)) Q E s := mod_int' hb (h _ rfl)
/-- what a choice between two ints hands on: an int of 0 or more -/
def IfEnd (h₀ : Heap) (L : Addr) (m : PySem.Str → Option Value) (news : List (Addr × Obj)) (s : Shared) (v : Value) (s' : Shared) : Prop :=
  ∃ (x : Int) (t : Tok) (h' : Heap) (tk' : Nat), v = .int x t ∧ s' = { s with heap := h', toks := tk' } ∧ 0 ≤ x ∧ Fr h₀ L h' m ∧ News h₀ L h' news
theorem if_end {x : Int} {t : Tok} {h' : Heap} {tk' : Nat} (F : Fr h₀ L h' m') (N : News h₀ L h' news) (hx : 0 ≤ x) : IfEnd h₀ L m' news s (.int x t) { s with heap := h', toks := tk' } :=
  ⟨x, t, h', tk', rfl, rfl, hx, F, N⟩
theorem if_join {M : Model} {A : Around} {e : PySem.Expr} {env : Env} (_F : Fr h₀ L s.heap m') (_N : News h₀ L s.heap news) (h : wpAny M A (eval e env) (IfEnd h₀ L m' news s) E s)
    (k : ∀ (x : Int) (t : Tok) (h' : Heap) (tk' : Nat), 0 ≤ x → Fr h₀ L h' m' → News h₀ L h' news → Q (.int x t) { s with heap := h', toks := tk' }) : wpAny M A (eval e env) Q E s :=
  wpAny_mono h (fun v s' hv => by
    obtain ⟨x, t, h', tk', rfl, rfl, hx, F, N⟩ := hv
    exact k x t h' tk' hx F N) fun _ _ x => x
/-- what an if hands on that stores one int under one name -/
def ForkEnd (x : PySem.Str) (P : Int → Prop) (h₀ : Heap) (L : Addr) (m : PySem.Str → Option Value) (news : List (Addr × Obj)) (s : Shared) (f : Flow) (s' : Shared) : Prop :=
  f = .next ∧ ∃ (v : Int) (t : Tok) (h' : Heap) (tk' : Nat), s' = { s with heap := h', toks := tk' } ∧ P v ∧ Fr h₀ L h' (fun z => if z = x then some (.int v t) else m z) ∧ News h₀ L h' news
theorem fork_step {x : PySem.Str} {P : Int → Prop} {v : Int} {t : Tok} {h' : Heap} {tk' : Nat} (F : Fr h₀ L h' (fun z => if z = x then some (.int v t) else m' z)) (N : News h₀ L h' news) (hv : P v) : ForkEnd x P h₀ L m' news s .next { s with heap := h', toks := tk' } :=
  ⟨rfl, v, t, h', tk', rfl, hv, F, N⟩
theorem fork_stay {x : PySem.Str} {P : Int → Prop} {v : Int} {t : Tok} {h' : Heap} {tk' : Nat} (F : Fr h₀ L h' m') (N : News h₀ L h' news) (hm : m' x = some (.int v t)) (hv : P v) : ForkEnd x P h₀ L m' news s .next { s with heap := h', toks := tk' } :=
  fork_step (v := v) (t := t) (by
    have e : (fun z => if z = x then some (Value.int v t) else m' z) = m' := by
      funext z
      by_cases h : z = x
      · subst h; simp [hm]
      · simp [h]
    rw [e]; exact F) N hv
theorem if_fork {M : Model} {A : Around} {st : Stmt} {env : Env} {Q : Flow → Shared → Prop} (x : PySem.Str) (P : Int → Prop) (_F : Fr h₀ L s.heap m') (_N : News h₀ L s.heap news) (h : wpAny M A (exec st env) (ForkEnd x P h₀ L m' news s) E s)
    (k : ∀ (v : Int) (t : Tok) (h' : Heap) (tk' : Nat), P v → Fr h₀ L h' (fun z => if z = x then some (.int v t) else m' z) → News h₀ L h' news → Q .next { s with heap := h', toks := tk' }) : wpAny M A (exec st env) Q E s :=
  wpAny_mono h (fun f s' hv => by
    obtain ⟨rfl, v, t, h', tk', rfl, hp, F, N⟩ := hv
    exact k v t h' tk' hp F N) fun _ _ x => x
theorem num_days {x e : Int} (h : 2117600 ≤ x) : 2117600 ≤ x + e.fmod 450 := by have := fm_pos e (show (0 : Int) < 450 by decide); omega
end
theorem up_adjust (b n : Nat) (hb : b ≤ n) : Builtin.Slice.sliceAdjust none (some (b : Int)) 1 (n : Int) = ((0 : Int), (b : Int)) := by
  unfold Builtin.Slice.sliceAdjust
  have h1 : ¬ ((1 : Int) < 0) := by omega
  have h2 : ¬ ((b : Int) < 0) := by omega
  simp only [h1, h2, if_false]
  congr 1
  omega
theorem up_places (b : Nat) : Builtin.Slice.slicePlaces (0 : Int) (b : Int) 1 = b := by
  unfold Builtin.Slice.slicePlaces
  have h1 : (1 : Int) > 0 := by omega
  simp only [h1, if_true, Int.ediv_one]
  split <;> omega
theorem up_pick (xs : Array Value) (b : Nat) : ((List.range b).filterMap fun (k : Nat) => xs[((0 : Int) + (k : Int) * 1).toNat]?).toArray = (xs.toList.take b).toArray := by
  have e : (fun (k : Nat) => xs[((0 : Int) + (k : Int) * 1).toNat]?) = fun k => xs[0 + k]? := by
    funext k
    have : ((0 : Int) + (k : Int) * 1).toNat = 0 + k := by omega
    rw [this]
  have h := pick_run xs 0 b
  rw [List.filterMap_map] at h
  have e2 : ((fun x => xs[x]?) ∘ fun x => 0 + x) = fun k => xs[0 + k]? := rfl
  rw [e2] at h
  rw [e, h, List.drop_zero]
section
variable {prog : Program} {w : World} {A : Around} {E : Value → Shared → Prop} {s : Shared}
theorem up_applied {sl : Addr} {b n : Nat} {u : Tok} {Q : Int × Int × Nat → Shared → Prop} (hs : s.heap.IsSliceOf sl .none (.int b u) .none) (hb : b ≤ n) (h : Q ((0 : Int), 1, b) s) :
    wpAny (model prog w) A (Builtin.Slice.sliceApplied (.ref sl) (pure (n : Int))) Q E s := by
  obtain ⟨os, hos, hcs, hds⟩ := id hs
  unfold Builtin.Slice.sliceApplied Builtin.Slice.sliceFields
  refine wpAny_bind (wpAny_bind (wpAny_field hos hds (x := .none) rfl (wpAny_bind (wpAny_field hos hds (x := .int b u) rfl (wpAny_bind (wpAny_field hos hds (x := .none) rfl (wpAny_pure ?_)))))))
  refine wpAny_bind (slicePart_none ?_)
  show wpAny _ _ (if ((1 : Int) == 0) = true then _ else _) _ _ s
  rw [if_neg (by decide)]
  refine wpAny_bind (slicePart_none (wpAny_bind (slicePart_int (wpAny_bind (wpAny_pure ?_)))))
  show wpAny _ _ (match Builtin.Slice.sliceAdjust none (some (b : Int)) 1 (n : Int) with | (lo, hi) => pure (lo, (1 : Int), Builtin.Slice.slicePlaces lo hi 1)) _ _ s
  rw [up_adjust b n hb]
  show wpAny _ _ (pure ((0 : Int), (1 : Int), Builtin.Slice.slicePlaces (0 : Int) (b : Int) 1)) _ _ s
  rw [up_places b]
  exact wpAny_pure h
theorem up_getItem {t sl : Addr} {items : Array Value} {b : Nat} {u : Tok} {Q : Value → Shared → Prop} (ht : IsTup s.heap t items) (hs : s.heap.IsSliceOf sl .none (.int b u) .none) (hb : b < items.size)
    (h : Q (.ref s.heap.objs.size) { s with heap := s.heap.push { cls := .type "tuple", data := .seq (items.toList.take b).toArray } })
    (hsz : items.size ≤ sizeLine) : wpAny (model prog w) A (getItem (.ref t) (.ref sl)) Q E s := by
  have hok : sizeOk (.seq (items.toList.take b).toArray) := by
    show (items.toList.take b).toArray.size ≤ sizeLine
    rw [List.size_toArray, List.length_take, Array.length_toList]
    omega
  obtain ⟨os, hos, hcs, hds⟩ := id hs
  have hTs : s.TypeIs (.ref sl) "slice" := ⟨os, hos, hcs⟩
  unfold getItem
  try with_reducible refine wpAny_holding ?_
  first | refine wpAny_bind (wpAny_pure ?_) | skip
  refine wpAny_bind (wpAny_sequenceKey ht.typeIs (by decide) ?_)
  refine wpAny_bind (wpAny_callSpecial?_slot (name := Str.ofString "__getitem__") ht.typeIs slot_tuple_getitem
    (wpAny_call_entry slot_tuple_getitem ht.typeIs entry_tuple_getitem ?_ (args_tuple_getitem _ _)))
  show wpAny _ _ (Builtin.Tuple.tupleItemsOf (.ref t) >>= _) _ _ s
  refine wpAny_bind (tupleItemsOf_ ht ?_)
  refine wpAny_bind (wpAny_typeOf hTs ?_)
  rw [if_pos (by decide)]
  refine wpAny_bind (up_applied hs (Nat.le_of_lt hb) ?_)
  have hno : ¬ (((0 : Int) == 0 && (1 : Int) == 1 && b == items.size) = true) := by
    have : (b == items.size) = false := by rw [beq_eq_false_iff_ne]; omega
    rw [this]; simp
  show wpAny _ _ (if ((0 : Int) == 0 && (1 : Int) == 1 && b == items.size) = true then _ else _) _ _ s
  rw [if_neg hno, up_pick items b]
  first
    | exact wpAny_bind (m := Builtin.Tuple.tupleExact _) (wpAny_newObj_type (wpAny_pure ⟨_, rfl, wpAny_pure h⟩) hok)
    | exact wpAny_bind (m := Builtin.Tuple.tupleExact _) (wpAny_newObj_type (wpAny_bind (wpAny_pure (wpAny_pure ⟨_, rfl, wpAny_pure h⟩))) hok)
    | exact wpAny_bind (wpAny_bind (m := Builtin.Tuple.tupleExact _) (wpAny_newObj_type (wpAny_pure (wpAny_pure ⟨_, rfl, wpAny_pure h⟩)) hok))
    | exact wpAny_bind (wpAny_bind (m := Builtin.Tuple.tupleExact _) (wpAny_newObj_type (wpAny_pure ⟨_, rfl, wpAny_pure h⟩) hok))
end
theorem up_slice {prog : Program} {w : World} {A : Around} {E : Value → Shared → Prop} {s : Shared} {h₀ : Heap} {L : Addr} {m : PySem.Str → Option Value} {news : List (Addr × Obj)} {value slice : PySem.Expr} {t : Addr} {items : Array Value} {b : Int} {u : Tok} {zs : List Value} {Q : Value → Shared → Prop}
    (F : Fr h₀ L s.heap m) (N : News h₀ L s.heap news) (ht : IsTup s.heap t items) (h0 : 0 ≤ b) (hb : b < items.size) (hz : items.size ≤ sizeLine) (e : items.toList.take b.toNat = zs)
    (hs : subscripted slice false (.ref t) (.ref s.heap.objs.size) = operate [.ref s.heap.objs.size, .ref t] (getItem (.ref t) (.ref s.heap.objs.size)))
    (hg : ∀ r, letTemporaryGo value (.ref t) r = pure ())
    (h : ∀ D h', Fr h₀ L h' m → News h₀ L h' ((D, ({ cls := .type "tuple", data := .seq zs.toArray 0 } : Obj)) :: news) → (∀ p ∈ news, p.1 < D) → Q (.ref D) { s with heap := h' }) :
    wpAny (model prog w) A (subscriptTail value slice (.ref t) (.ref s.heap.objs.size)) Q E { s with heap := s.heap.push { cls := .type "slice", data := .fields #[.none, .int b u, .none] } } := by
  obtain ⟨k, rfl⟩ : ∃ k : Nat, b = k := ⟨b.toNat, by omega⟩
  rw [Int.toNat_natCast] at e
  subst e
  have ht' : IsTup (s.heap.push { cls := .type "slice", data := .fields #[.none, .int k u, .none] }) t items := ht.keeps fun _ _ e => Heap.get?_push_of_some _ e
  refine subscriptTail_ops (s := { s with heap := s.heap.push { cls := .type "slice", data := .fields #[.none, .int k u, .none] } }) ht'.typeIs slot_tuple_getitem.lookup
    (up_getItem ht' (Heap.IsSliceOf.new ..) (by omega) ?_ hz) hs hg
  have N1 := News.push (F.push { cls := .type "slice", data := .fields #[.none, .int k u, .none] }) (N.grown fun _ _ e => Heap.get?_push_of_some _ e) { cls := .type "tuple", data := .seq (items.toList.take k).toArray }
  rw [Heap.size_push] at N1
  show Q (.ref (s.heap.push _).objs.size) _
  rw [Heap.size_push]
  exact h _ _ ((F.push _).push _) N1 fun p hp => Nat.lt_succ_of_lt (Heap.lt_size (N p hp).1)
theorem up_sliceK {prog : Program} {w : World} {A : Around} {E : Value → Shared → Prop} {s : Shared} {K : Frag} {h₀ : Heap} {L : Addr} {m : PySem.Str → Option Value} {news : List (Addr × Obj)} {value slice : PySem.Expr} {t : Addr} {n : Nat} {dd : Option Addr} {sl : Array (Option Value)} {l : List Value} {b : Int} {u : Tok} {zs : List Value} {Q : Value → Shared → Prop}
    (F : Fr h₀ L s.heap m) (X₀ : K.In h₀) (N : News h₀ L s.heap news) (hl : K.lookup t = some ⟨.type "tuple", dd, .seq l.toArray n, sl⟩) (h0 : 0 ≤ b) (hb : b < l.length) (hz : l.length ≤ sizeLine) (e : l.take b.toNat = zs)
    (hs : subscripted slice false (.ref t) (.ref s.heap.objs.size) = operate [.ref s.heap.objs.size, .ref t] (getItem (.ref t) (.ref s.heap.objs.size)))
    (hg : ∀ r, letTemporaryGo value (.ref t) r = pure ())
    (h : ∀ D h', Fr h₀ L h' m → News h₀ L h' ((D, ({ cls := .type "tuple", data := .seq zs.toArray 0 } : Obj)) :: news) → (∀ p ∈ news, p.1 < D) → Q (.ref D) { s with heap := h' }) :
    wpAny (model prog w) A (subscriptTail value slice (.ref t) (.ref s.heap.objs.size)) Q E { s with heap := s.heap.push { cls := .type "slice", data := .fields #[.none, .int b u, .none] } } :=
  up_slice F N (tupK (X₀.keeps F.keep) hl) h0 (by simpa using hb) (by simpa using hz) (by simpa using e) hs hg h
theorem up_sliceI {prog : Program} {w : World} {A : Around} {E : Value → Shared → Prop} {s : Shared} {K : Frag} {h₀ : Heap} {L : Addr} {m : PySem.Str → Option Value} {news : List (Addr × Obj)} {value slice : PySem.Expr} {t : Addr} {n : Nat} {dd : Option Addr} {sl : Array (Option Value)} {l : List Value} {ns : List Int} {b : Int} {u : Tok} {Q : Value → Shared → Prop}
    (F : Fr h₀ L s.heap m) (X₀ : K.In h₀) (N : News h₀ L s.heap news) (hl : K.lookup t = some ⟨.type "tuple", dd, .seq l.toArray n, sl⟩) (hi : IntsAre l ns) (h0 : 0 ≤ b) (hb : b < l.length) (hz : l.length ≤ sizeLine)
    (hs : subscripted slice false (.ref t) (.ref s.heap.objs.size) = operate [.ref s.heap.objs.size, .ref t] (getItem (.ref t) (.ref s.heap.objs.size)))
    (hg : ∀ r, letTemporaryGo value (.ref t) r = pure ())
    (h : ∀ D h' ws, IntsAre ws (ns.take b.toNat) → Fr h₀ L h' m → News h₀ L h' ((D, ({ cls := .type "tuple", data := .seq ws.toArray 0 } : Obj)) :: news) → (∀ p ∈ news, p.1 < D) → Q (.ref D) { s with heap := h' }) :
    wpAny (model prog w) A (subscriptTail value slice (.ref t) (.ref s.heap.objs.size)) Q E { s with heap := s.heap.push { cls := .type "slice", data := .fields #[.none, .int b u, .none] } } :=
  up_sliceK F X₀ N hl h0 hb hz rfl hs hg fun D h' F' N' l1 => h D h' (l.take b.toNat) (hi.take b.toNat) F' N' l1
section
variable {prog : Program} {w : World} {A : Around} {E : Value → Shared → Prop} {s : Shared} {nm : PySem.Str} {sc : PySem.Scope} {L a : Addr} {cd : Value} {h₀ : Heap} {x y : PySem.Str} {px : Pos} {body : List Stmt} {Q : Flow → Shared → Prop}
  {m₀ : PySem.Str → Option Value} {news : List (Addr × Obj)} {I ax : Addr} {lo : Obj}
/-- a turn: the loop's name holds an int, the counted name holds an int, all else stands -/
abbrev TurnOk (prog : Program) (w : World) (A : Around) (E : Value → Shared → Prop) (s : Shared) (env : Env) (h₀ : Heap) (L : Addr) (x y : PySem.Str) (body : List Stmt) (Q : Flow → Shared → Prop) (m₀ : PySem.Str → Option Value) (news : List (Addr × Obj)) : Prop :=
  ∀ (n : Int) (t : Tok) (b : Int) (tb : Tok) (h : Heap) (tk : Nat) (own : List (Addr × Obj)), Fr h₀ L h (fun z => if z = x then some (.int n t) else if z = y then some (.int b tb) else m₀ z) → News h₀ L h (own ++ news) →
    wpAny (model prog w) A (execs body env) (InvPost h₀ L (fun m' => (∃ b' t', m' y = some (.int b' t')) ∧ ∀ z, z ≠ x → z ≠ y → m' z = m₀ z) (own ++ news) { s with heap := h, toks := tk } Q) E { s with heap := h, toks := tk }
theorem items_ints (hk : sc.kind = .function) (hl : (envOf nm sc L a cd).kindOf x = some .local) (hI : ∀ p ∈ news, p.1 < I) (hm : (ax, lo) ∈ news)
    (turn : TurnOk prog w A E s (envOf nm sc L a cd) h₀ L x y body Q m₀ news)
    (done : ∀ (u : PySem.Str → Option Value) (b : Int) (tb : Tok) (h : Heap) (tk : Nat), Fr h₀ L h (fun z => if z = x then u z else if z = y then some (.int b tb) else m₀ z) → News h₀ L h news → Q .next { s with heap := h, toks := tk }) :
    ∀ (vs : List Value) (ns : List Int), IntsAre vs ns → ∀ m : PySem.Str → Option Value, (∃ b tb, m y = some (.int b tb)) → (∀ z, z ≠ x → z ≠ y → m z = m₀ z) →
      ItemsRest prog w A E h₀ (envOf nm sc L a cd) (.Name x px) body Q s [(I, "tuple_iterator")] [(ax, lo)] (vs.map .val) m news := by
  intro vs ns hi
  induction hi with
  | nil =>
    rintro m ⟨b, tb, hb⟩ hz
    refine ItemsRest.zero fun h tk F N => done m b tb h tk ?_ N
    have e : (fun z => if z = x then m z else if z = y then some (.int b tb) else m₀ z) = m := by
      funext z
      by_cases h1 : z = x
      · simp [h1]
      · by_cases h2 : z = y
        · subst h2; simp [h1, hb]
        · simp [h1, h2, hz z h1 h2]
    rw [e]; exact F
  | cons n t _ ih =>
    rename_i vs₁ ns₁ _
    rintro m ⟨b, tb, hb⟩ hz
    refine ItemsRest.val fun h tk F => AllObj.cons fun o _ => AllObj.nil fun N => ?_
    refine assign_Name (stN F N (fun h' F' N' => ?_) hk hl)
    have e : (fun z => if z = x then some (Value.int n t) else m z) = fun z => if z = x then some (.int n t) else if z = y then some (.int b tb) else m₀ z := by
      funext z
      by_cases h1 : z = x
      · simp [h1]
      · by_cases h2 : z = y
        · subst h2; simp [h1, hb]
        · simp [h1, h2, hz z h1 h2]
    rw [e] at F'
    refine wpAny_mono (turn n t b tb h' (tk + 1) [(I, o)] F' N') (fun f s₂ p => ?_) fun _ _ e => e
    have fin : InvEnd h₀ L (fun m' => (∃ b' t', m' y = some (.int b' t')) ∧ ∀ z, z ≠ x → z ≠ y → m' z = m₀ z) ([(I, o)] ++ news) { s with heap := h', toks := tk + 1 } s₂ →
        UnrEndW h₀ L { s with heap := h, toks := tk } [(I, o)] (fun m' n' => SubL [(ax, lo)] n' ∧ ItemsRest prog w A E h₀ (envOf nm sc L a cd) (.Name x px) body Q s [(I, "tuple_iterator")] [(ax, lo)] (List.map Itm.val vs₁) m' n') s₂ := by
      rintro ⟨h₂, tk₂, m₂, news₂, rfl, F₂, N₂, hn, hj⟩
      refine ⟨h₂, tk₂, m₂, news, rfl, F₂, fun p hp => N₂ p (hn p hp), fun p hp q hq => ?_, ⟨hm, trivial⟩, ih m₂ hj.1 hj.2⟩
      rw [List.mem_singleton.mp hq]
      exact Nat.ne_of_lt (hI p hp)
    cases f with
    | ret v => exact p
    | brk => exact p
    | next => exact fin p
    | cont => exact fin p
theorem iter_ints {vs : List Value} {ns : List Int} {k : Nat} {b₀ : Int} {t₀ : Tok} (hh : A.handled = none) (F : Fr h₀ L s.heap m₀) (N : News h₀ L s.heap news) (hm : (ax, lo) ∈ news) (hc : lo.cls = .type "tuple") (hd : lo.data = .seq vs.toArray k) (hi : IntsAre vs ns)
    (hy : m₀ y = some (.int b₀ t₀)) (hk : sc.kind = .function) (hl : (envOf nm sc L a cd).kindOf x = some .local)
    (turn : TurnOk prog w A E s (envOf nm sc L a cd) h₀ L x y body Q m₀ news)
    (done : ∀ (u : PySem.Str → Option Value) (b : Int) (tb : Tok) (h : Heap) (tk : Nat), Fr h₀ L h (fun z => if z = x then u z else if z = y then some (.int b tb) else m₀ z) → News h₀ L h news → Q .next { s with heap := h, toks := tk }) :
    wpAny (model prog w) A (pyIter (.ref ax)) (fun it s₂ => TurnsAt prog w A h₀ (envOf nm sc L a cd) (.Name x px) body Q E it s₂) E s :=
  iter_tupTurns hh F N hm hc hd fun I hI => items_ints hk hl hI hm turn done vs ns hi m₀ ⟨b₀, t₀, hy⟩ fun _ _ _ => rfl
end
end Mine
set_option maxRecDepth 100000
set_option maxHeartbeats 40000000
open_top Mine.hd for PySem.Challenge.rw_bh0009_01

local macro_rules | `(tactic| ktr_rel) => `(tactic| first
  | exact Mine.leap_a (by assumption) (by assumption)
  | exact Mine.leap_b (by assumption) (by assumption)
  | exact Mine.leap_c (by assumption)
  | exact Mine.jd_a (by assumption)
  | exact Mine.jd_b (by assumption) (by assumption)
  | exact Mine.jd_c (by assumption) (by assumption)
  | exact Mine.true_out
  | exact Mine.ok_t (by omega) (by decide)
  | exact Mine.ok_t (Mine.fm_pos _ (by decide)) (by decide)
  | exact Mine.ok_t (Mine.fd_pos (by omega) (by decide)) (by decide)
  | exact Mine.ok_t (Mine.yd1 (by assumption) (by assumption)) (by decide)
  | exact Mine.ok_l (by omega) (by omega))
local macro_rules | `(tactic| k_room) => `(tactic| ktr_room)
local macro_rules | `(tactic| kcj_all) => `(tactic| first | exact fun _ hp9 => hp9 | fail)
local macro_rules | `(tactic| walk_at "KCj") => `(tactic| (kpf_tidy; (refine kcj_end (t := (0 : Nat)) ?kce (by with_unfolding_all rfl) rfl (by assumption) (by assumption) (by kcj_all)); (case kce => kpf_eq)))
local macro_rules | `(tactic| walk_at "compareOp In int ref") => `(tactic| (k_here; k_dflt (refine' Mine.in_tupK ?k1 ?k2 ?k3 ?k4 ?_; (case k1 => k_asm); (case k2 => k_asm); (case k3 => k_is); (case k4 => repeat constructor); k_whole)))
local macro_rules | `(tactic| walk_at "subscriptTail Name Slice ref ref") => `(tactic| (k_here; k_dflt (refine' Mine.up_sliceI ?F ?X ?N ?l ?i ?a ?b ?z ?s ?g ?_; (case F => k_asm); (case X => k_asm); (case N => k_asm); (case l => k_is); (case i => repeat constructor); (case a => omega); (case b => ((simp only [List.length_cons, List.length_nil]); omega)); (case z => exact Nat.le_of_ble_eq_true rfl); (case s => with_unfolding_all rfl); (case g => kmk_pure)); intro D' h' ws' hI' F' N' l1; (try k_lt l1); (try k_sweep)))
local macro_rules | `(tactic| walk_at "exec For Name Subscript cons nil") => `(tactic| (k_here; (rename Fr _ _ _ _ => lF'); (with_unfolding_all refine' For_turns lF' ?_; k_whole)))
local macro_rules | `(tactic| walk_at "pyIter ref") => `(tactic| (k_here; (with_reducible show wpAny _ _ (pyIter (Value.ref _)) (fun it s₂ => TurnsAt _ _ _ _ _ _ _ _ _ it s₂) _ _); (rename Fr _ _ _ _ => lF'); (rename News _ _ _ _ => lN'); (with_unfolding_all refine' Mine.iter_ints (y := Str.ofString "first") (by rfl) lF' lN' (by k_mem) (by rfl) (by rfl) (by assumption) (by rfl) (by rfl) (by rfl) (fun n' t' b' tb' h' tk' own' F' N' => ?_) (fun u' b' tb' h' tk' F' N' => ?_)); (all_goals (try clear lF' lN')); (all_goals (try k_fold))))
local macro_rules | `(tactic| walk_at "InvEnd") => `(tactic| (refine InvEnd.intro (by assumption) (by assumption) (by k_sub) ⟨⟨_, _, by with_unfolding_all rfl⟩, by k_same2⟩))
local macro_rules | `(tactic| walk_at "eval IfExp") => `(tactic| (k_extra "mine: a choice"))
local macro_rules | `(tactic| walk_at "exec If") => `(tactic| (k_extra "mine: a fork"))
local macro_rules | `(tactic| walk_at "ForkEnd") => `(tactic| (first
  | (refine' Mine.fork_step ?k1 ?k2 ?k3; (case k1 => k_asm); (case k2 => k_asm); (case k3 => k_extra "mine: a fork's end"))
  | (refine' Mine.fork_stay ?k1 ?k2 ?k3 ?k4; (case k1 => k_asm); (case k2 => k_asm); (case k3 => with_unfolding_all rfl); (case k4 => k_extra "mine: a fork's end"))))
local macro_rules | `(tactic| walk_at "binaryOp FloorDiv int int") => `(tactic| (k_extra "mine: a quotient"))
local macro_rules | `(tactic| walk_at "binaryOp Mod int int") => `(tactic| (k_extra "mine: a rest"))
local macro_rules | `(tactic| walk_at "IfEnd") => `(tactic| (refine Mine.if_end (by k_asm) (by k_asm) (by first | decide | omega | (split <;> omega) | exact Mine.fm_pos _ (by decide))))

theorem Mine.c22 : ∀ (w : World) (loose : List PySem.Str) (mean : ExcName → Option Value) (mg mb : PySem.Str → Option Value) d, TellsN PySem.Challenge.pw_bh0009_01 w (Mine.hd.heap_39 w.params) Mine.hd.view_39 loose mean mg mb 22 Mine.cLeap d := by
  k_with_none
  intro w loose mean mg mb
  refine tellsN_of fun d IH => Mine.tells_ok fun hok => ?_
  clear hok
  ktn_step

theorem Mine.c44 : ∀ (w : World) (loose : List PySem.Str) (mean : ExcName → Option Value) (mg mb : PySem.Str → Option Value) d, TellsN PySem.Challenge.pw_bh0009_01 w (Mine.hd.heap_39 w.params) Mine.hd.view_39 loose mean mg mb 44 Mine.cLegal d := by
  k_with_none
  k_with "call ref" => ktn_call (Str.ofString "isleap") Mine.cLeap
  intro w loose mean mg mb
  refine tellsN_of fun d IH => Mine.tells_ok fun hok => ?_
  clear hok
  have S22 := Mine.c22 w loose mean mg mb
  ktn_step

theorem Mine.c51 : ∀ (w : World) (loose : List PySem.Str) (mean : ExcName → Option Value) (mg mb : PySem.Str → Option Value) d, TellsN PySem.Challenge.pw_bh0009_01 w (Mine.hd.heap_39 w.params) Mine.hd.view_39 loose mean mg mb 51 Mine.cToJdG d := by
  k_with_none
  k_with "call ref" => ktn_call (Str.ofString "isleap") Mine.cLeap
  k_with "call ref" => ktn_call (Str.ofString "legal_date") Mine.cLegal
  intro w loose mean mg mb
  refine tellsN_of fun d IH => Mine.tells_ok fun hok => ?_
  clear hok
  have S22 := Mine.c22 w loose mean mg mb
  have S44 := Mine.c44 w loose mean mg mb
  ktn_step

theorem Mine.c58 : ∀ (w : World) (loose : List PySem.Str) (mean : ExcName → Option Value) (mg mb : PySem.Str → Option Value) d, TellsN PySem.Challenge.pw_bh0009_01 w (Mine.hd.heap_39 w.params) Mine.hd.view_39 loose mean mg mb 58 Mine.cDateG d := by
  k_with_none
  k_with "call ref" => ktn_call (Str.ofString "isleap") Mine.cLeap
  k_with "call ref" => ktn_call (Str.ofString "to_jd_gregorian") Mine.cToJdG
  k_with "mine: a fork" => (
    (with_reducible show wpAny _ _ (exec (Stmt.If (Expr.UnaryOp _ _ _) _ _ _) _) _ _ _)
    refine' Mine.if_fork (Str.ofString "year") (Mine.InY d) ?k1 ?k2 (wpAny_If ?_) ?_
    (case k1 => k_asm)
    (case k2 => k_asm)
    all_goals (try (intro y9 t9 h9 tk9 hy9 F9 N9))
    all_goals (try dsimp only)
    all_goals (try k_fold))
  k_with "mine: a fork" => (
    (with_reducible show wpAny _ _ (exec (Stmt.If (Expr.Compare _ _ _ _) _ _ _) _) _ _ _)
    refine' Mine.if_fork (Str.ofString "leap_adj") (Mine.Adj d y9) ?k1 ?k2 (wpAny_If ?_) ?_
    (case k1 => k_asm)
    (case k2 => k_asm)
    all_goals (try (intro v9 t9 h9 tk9 hv9 F9 N9))
    all_goals (try dsimp only)
    all_goals (try k_fold))
  k_with "mine: a fork's end" => first
    | exact Mine.g_y4 (by assumption)
    | exact Mine.g_j4 (by assumption) (by assumption)
    | exact Mine.g_y (by assumption) (by assumption)
    | exact .inl ⟨by assumption, rfl⟩
    | exact .inr (.inl ⟨by assumption, by assumption, rfl⟩)
    | exact .inr (.inr ⟨by assumption, by assumption, rfl⟩)
  intro w loose mean mg mb
  refine tellsN_of fun d IH => Mine.tells_ok fun hok => ?_
  clear hok
  have S22 := Mine.c22 w loose mean mg mb
  have S51 := Mine.c51 w loose mean mg mb
  unfold TellsN
  intro dp un gd cn cs a ccd cl outer A₀ base h₀ L m' news s vs Q E B F X N T hk hR hok hd hu hret
  cases hR
  refine wpAny_call ?_
  k_dflt ktr_enter
  k_steps
  all_goals (refine hret _ _ _ _ (by k_asm) (by first | k_asm | exact ktn_tl1 (by k_asm)) (by ktn_ord) (by first | assumption | exact ⟨_, rfl⟩) ?_; exact Mine.OutT.mk ktn_new (Mine.g_fin (by assumption) (by assumption)))

theorem Mine.c65 : ∀ (w : World) (loose : List PySem.Str) (mean : ExcName → Option Value) (mg mb : PySem.Str → Option Value) d, TellsN PySem.Challenge.pw_bh0009_01 w (Mine.hd.heap_39 w.params) Mine.hd.view_39 loose mean mg mb 65 Mine.cLenG d := by
  k_with_none
  k_with "call ref" => ktn_call (Str.ofString "isleap") Mine.cLeap
  intro w loose mean mg mb
  refine tellsN_of fun d IH => Mine.tells_ok fun hok => ?_
  have S22 := Mine.c22 w loose mean mg mb
  obtain ⟨y, m⟩ := d
  obtain ⟨hm1, hm2⟩ := hok
  dsimp only at hm1 hm2
  unfold TellsN
  intro dp un gd cn cs a ccd cl outer A₀ base h₀ L m' news s vs Q E B F X N T hk hR hok hd hu hret
  cases hR
  refine wpAny_call ?_
  k_dflt ktr_enter
  k_steps
  all_goals (refine hret _ [] _ _ (by k_asm) (ktn_tl0 (cb_drop (by assumption) (by kcj_all))) ktn_ord0 rfl ?_; first
    | exact Mine.len_ne (by assumption) (by assumption) (by assumption)
    | exact Mine.len_1 (by assumption) (by assumption)
    | exact Mine.len_0 (by assumption) (by assumption)
    )

theorem Mine.c36 : ∀ (w : World) (loose : List PySem.Str) (mean : ExcName → Option Value) (mg mb : PySem.Str → Option Value) d, TellsN PySem.Challenge.pw_bh0009_01 w (Mine.hd.heap_39 w.params) Mine.hd.view_39 loose mean mg mb 36 Mine.cTrunc d := by
  k_with_none
  intro w loose mean mg mb
  refine tellsN_of fun d IH => Mine.tells_ok fun hok => ?_
  obtain ⟨x, z⟩ := d
  obtain ⟨hx, hz⟩ := hok
  dsimp only at hx hz
  rcases hz with rfl | rfl | rfl | rfl
  all_goals (
    unfold TellsN
    intro dp un gd cn cs a ccd cl outer A₀ base h₀ L m' news s vs Q E B F X N T hk hR hok hd hu hret
    cases hR
    refine wpAny_call ?_
    k_dflt ktr_enter
    k_steps
    all_goals (refine hret _ [] _ _ (by k_asm) (ktn_tl0 (by k_asm)) ktn_ord0 rfl ?_; first
      | exact Mine.trunc_a (b := 4) hx (by decide)
      | exact Mine.trunc_a (b := 30) hx (by decide)
      | exact Mine.trunc_a (b := 365) hx (by decide)
      | exact Mine.trunc_a (b := 1461) hx (by decide)
      | exact (Mine.trunc_b (b := 4) hx (by decide) (by assumption)).elim
      | exact (Mine.trunc_b (b := 30) hx (by decide) (by assumption)).elim
      | exact (Mine.trunc_b (b := 365) hx (by decide) (by assumption)).elim
      | exact (Mine.trunc_b (b := 1461) hx (by decide) (by assumption)).elim
      ))

theorem Mine.c174 : ∀ (w : World) (loose : List PySem.Str) (mean : ExcName → Option Value) (mg mb : PySem.Str → Option Value) d, TellsN PySem.Challenge.pw_bh0009_01 w (Mine.hd.heap_39 w.params) Mine.hd.view_39 loose mean mg mb 174 Mine.cDate d := by
  k_with_none
  k_with "call ref" => ktn_call (Str.ofString "from_jd_gregorian") Mine.cDateG
  k_with "call ref" => ktn_call (Str.ofString "trunc") Mine.cTrunc
  k_with "mine: a quotient" => (
    refine Mine.fd_letter (by decide) (PyProof.noPylong_of_log2 (by decide +kernel)) (fun q9 hq9 => ?_)
    (try dsimp only))
  intro w loose mean mg mb
  refine tellsN_of fun d IH => Mine.tells_ok fun hok => ?_
  have S36 := Mine.c36 w loose mean mg mb
  have S58 := Mine.c58 w loose mean mg mb
  obtain ⟨k, n⟩ := d
  obtain ⟨⟨hk0, hk5⟩, hn⟩ := hok
  dsimp only at hk0 hk5 hn
  unfold TellsN
  intro dp un gd cn cs a ccd cl outer A₀ base h₀ L m' news s vs Q E B F X N T hk hR hok hd hu hret
  cases hR
  refine wpAny_call ?_
  k_dflt ktr_enter
  k_steps
  all_goals (repeat (first | ((rename ((_ : Int) = Int.fdiv _ _) => hq9); subst hq9) | ((rename ((_ : Int) = Int.fmod _ _) => hq9); subst hq9)))
  all_goals (refine hret _ _ _ _ (by k_asm) (by first | k_asm | exact ktn_tl1 (by k_asm)) (by ktn_ord) (by first | assumption | exact ⟨_, rfl⟩) ?_; first
    | exact Mine.out_g (by assumption) (by assumption)
    | exact Mine.OutT.mk ktn_new (Mine.jul_a (by assumption) (by assumption))
    | exact Mine.OutT.mk ktn_new (Mine.jul_b (by assumption) (by assumption))
    | exact Mine.OutT.mk ktn_new (Mine.isl (by assumption))
    | exact Mine.OutT.mk ktn_new (Mine.cop (by assumption))
    | exact Mine.OutT.mk ktn_new (Mine.arm (by assumption) (by assumption))
    | exact Mine.OutT.mk ktn_new (Mine.sar (by omega) (by assumption) (.inl ⟨by assumption, rfl, rfl⟩))
    | exact Mine.OutT.mk ktn_new (Mine.sar (by omega) (by assumption) (.inr ⟨by assumption, rfl, .inl ⟨by assumption, rfl⟩⟩))
    | exact Mine.OutT.mk ktn_new (Mine.sar (by omega) (by assumption) (.inr ⟨by assumption, rfl, .inr ⟨by assumption, rfl⟩⟩))
    )

theorem Mine.c181 : ∀ (w : World) (loose : List PySem.Str) (mean : ExcName → Option Value) (mg mb : PySem.Str → Option Value) d, TellsN PySem.Challenge.pw_bh0009_01 w (Mine.hd.heap_39 w.params) Mine.hd.view_39 loose mean mg mb 181 Mine.cLen d := by
  k_with_none
  k_with "call ref" => ktn_call (Str.ofString "month_length_gregorian") Mine.cLenG
  intro w loose mean mg mb
  refine tellsN_of fun d IH => Mine.tells_ok fun hok => ?_
  have S65 := Mine.c65 w loose mean mg mb
  obtain ⟨k, y, m⟩ := d
  obtain ⟨⟨hk0, hk5⟩, hm1, hm2, hm3⟩ := hok
  dsimp only at hk0 hk5 hm1 hm2 hm3
  unfold TellsN
  intro dp un gd cn cs a ccd cl outer A₀ base h₀ L m' news s vs Q E B F X N T hk hR hok hd hu hret
  cases hR
  refine wpAny_call ?_
  k_dflt ktr_enter
  k_steps
  all_goals first
    | (exfalso; omega)
    | (refine hret _ [] _ _ (by k_asm) (ktn_tl0 (cb_drop (by assumption) (by kcj_all))) ktn_ord0 rfl ?_; first
      | exact Mine.lk0 (by assumption)
      | exact Mine.lk1 (by assumption) (Mine.lj1 (by assumption) (by assumption))
      | exact Mine.lk1 (by assumption) (Mine.lj2 (by assumption) (by assumption))
      | exact Mine.lk1 (by assumption) (Mine.lj3 (by assumption) (by assumption))
      | exact Mine.lk1 (by assumption) (Mine.lj4 (by assumption) (by assumption))
      | exact Mine.lk2 (by assumption) (Mine.li1 (by assumption) (by omega) (by assumption))
      | exact Mine.lk2 (by assumption) (Mine.li2 (by assumption) (by assumption))
      | exact Mine.lk2 (by assumption) (Mine.li3 (by assumption) (by assumption))
      | exact Mine.lk2 (by assumption) (Mine.li4 (by assumption) (by omega) (by assumption) (by assumption))
      | exact Mine.lk3 (by assumption) (Mine.lc1 (by assumption))
      | exact Mine.lk3 (by assumption) (Mine.lc2 (by assumption) (by assumption))
      | exact Mine.lk3 (by assumption) (Mine.lc3 (by assumption) (by assumption))
      | exact Mine.lk4 (by assumption) (Mine.la1 (by assumption))
      | exact Mine.lk4 (by assumption) (Mine.la2 (by assumption))
      | exact Mine.lk5 (by omega) (Mine.ls1 (by assumption) (by assumption))
      | exact Mine.lk5 (by omega) (Mine.ls2 (by assumption) (by assumption) (by assumption))
      | exact Mine.lk5 (by omega) (Mine.ls3 (by assumption) (by assumption))
      | exact Mine.lk5 (by omega) (Mine.ls4 (by assumption))
      )

theorem PySem.Challenge.cw_bh0009_01_holds : PySem.Challenge.rw_bh0009_01.Holds := by
  refine Mine.hd ?_
  k_with_none
  k_with "call ref" => (
    k_dflt (refine' Mine.use_len (Mine.c181 _ _ _ _ _) ?k1 ?k2 ?k3 ?k4 ?k5 ?kK ?ka ?kb ?kc ?kd ?ku ?_
            (case k1 => k_asm)
            (case k2 => k_asm)
            (case k3 => k_asm)
            (case k4 => k_asm)
            (case k5 => k_asm)
            (case kK => first | exact rfl | assumption)
            (case ka => decide)
            (case kb => decide)
            (case kc => first | exact Mine.okm_isd (by assumption) | exact Mine.okm_one | exact Mine.okm_next (by assumption) (by omega))
            (case kd => ktr_room)
            (case ku => ktr_units))
    intro t9 h9 tk9 F9 N9
    (try dsimp only)
    (try k_fold))
  k_with "call ref" => (
    k_dflt (refine' Mine.use_date (Mine.c174 _ _ _ _ _) ?k1 ?k2 ?k3 ?k4 ?k5 ?kK ?ka ?kb ?kc ?kd ?ku ?_
            (case k1 => k_asm)
            (case k2 => k_asm)
            (case k3 => k_asm)
            (case k4 => k_asm)
            (case k5 => k_asm)
            (case kK => first | exact rfl | assumption)
            (case ka => decide)
            (case kb => decide)
            (case kc => omega)
            (case kd => ktr_room)
            (case ku => ktr_units))
    intro a9 y9 m9 d9 t1 t2 t3 c9 h9 tk9 F9 N9 hI9
    (try (obtain ⟨e1, e2, e3⟩ := Mine.inv_end (by assumption) (by assumption) hI9; subst e1 e2 e3))
    (try dsimp only)
    (try k_fold))
  k_with "mine: a choice" => (
    (with_reducible show wpAny _ _ (eval (Expr.IfExp (Expr.Compare (Expr.Call _ _ _ _) _ _ _) _ _ _) _) _ _ _)
    refine' Mine.if_join ?k1 ?k2 (IfExp_ ?_) ?_
    (case k1 => k_asm)
    (case k2 => k_asm)
    all_goals (try (intro x9 t9 h9 tk9 hx9 F9 N9))
    all_goals (try dsimp only)
    all_goals (try k_fold))
  k_with "exec While Compare cons nil" => k_while_given ["kind", "number", "days"] (fun kind number days (_ : List Int) left rest year month day => Mine.Inv kind number days left rest year month day) (fun _ _ _ (_ : List Int) left _ _ _ _ => left.toNat) "left" "rest" "year" "month" "day"
  k_with "state" => first
    | exact Mine.inv_start (by decide) (by decide) (by assumption) (by assumption)
    | exact Mine.inv_stay (by assumption) (by assumption) (by omega)
    | exact Mine.inv_over (by assumption) (by assumption) (by omega)
  k_with "measure" => exact Mine.inv_less (by assumption) (by assumption)
  w_strict k_go

