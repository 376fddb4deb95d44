import PyProof.Rows.All
import Wide.All
import OpenK.AllK
import Wide.FinOn
import PySem.Challenge.RW_aq6010_01
open PySem PySem.W PyProof.Rows PySem.Spec PySem.Calls
set_option Elab.async false
namespace Mine
set_option maxRecDepth 100000 in
set_option maxHeartbeats 8000000 in
open_top hd for PySem.Challenge.rw_aq6010_01
end Mine

namespace Mine
open PyProof.Rows

/-- the first of January of a year, as the law reckons it -/
def jan (y : Int) : Int :=
  1721426 + 146097 * (y - 1).fdiv 400 + 365 * (y - 1).fmod 400 + ((y - 1).fmod 400).fdiv 4 - ((y - 1).fmod 400).fdiv 100

theorem fdiv_pos (a b : Int) (h : 0 < b) : a.fdiv b = a / b := Int.fdiv_eq_ediv_of_nonneg a (Int.le_of_lt h)
theorem fmod_pos (a b : Int) (h : 0 < b) : a.fmod b = a % b := Int.fmod_eq_emod_of_nonneg a (Int.le_of_lt h)

theorem jan_eq (y : Int) : jan y = 1721426 + 146097 * ((y - 1) / 400) + 365 * ((y - 1) % 400) + ((y - 1) % 400) / 4 - ((y - 1) % 400) / 100 := by
  unfold jan
  simp only [fdiv_pos _ 400 (by decide), fmod_pos _ 400 (by decide), fdiv_pos _ 4 (by decide), fdiv_pos _ 100 (by decide)]

theorem jan_at (q r : Int) (h0 : 0 ≤ r) (h1 : r < 400) : jan (q * 400 + r + 1) = 1721426 + 146097 * q + 365 * r + r / 4 - r / 100 := by
  rw [jan_eq]
  have e1 : (q * 400 + r + 1 - 1) / 400 = q := by omega
  have e2 : (q * 400 + r + 1 - 1) % 400 = r := by omega
  rw [e1, e2]

theorem year_parts (y : Int) : ∃ q r : Int, 0 ≤ r ∧ r < 400 ∧ y = q * 400 + r + 1 := ⟨(y - 1) / 400, (y - 1) % 400, by omega, by omega, by omega⟩

theorem jan_step (y : Int) : jan y + 365 ≤ jan (y + 1) ∧ jan (y + 1) ≤ jan y + 366 := by
  obtain ⟨q, r, h0, h1, rfl⟩ := year_parts y
  rw [jan_at q r h0 h1]
  rcases (show r < 399 ∨ r = 399 by omega) with h | h
  · rw [show q * 400 + r + 1 + 1 = q * 400 + (r + 1) + 1 by omega, jan_at q (r + 1) (by omega) (by omega)]
    omega
  · subst h
    rw [show q * 400 + 399 + 1 + 1 = (q + 1) * 400 + 0 + 1 by omega, jan_at (q + 1) 0 (by omega) (by omega)]
    omega

theorem jan_guess (n : Int) : jan (((n - 1721426) * 400).fdiv 146097 + 1) ≤ n ∧ n < jan (((n - 1721426) * 400).fdiv 146097 + 1 + 1 + 1) := by
  rw [fdiv_pos _ 146097 (by decide)]
  have key : ∀ d : Int, ∃ q r : Int, 0 ≤ r ∧ r < 400 ∧ d * 400 / 146097 = q * 400 + r ∧ 146097 * r ≤ 400 * (d - 146097 * q) ∧ 400 * (d - 146097 * q) < 146097 * (r + 1) := by
    intro d
    refine ⟨d * 400 / 146097 / 400, d * 400 / 146097 % 400, by omega, by omega, by omega, by omega, by omega⟩
  obtain ⟨q, r, h0, h1, e, h2, h3⟩ := key (n - 1721426)
  rw [e]
  refine ⟨?_, ?_⟩
  · rw [jan_at q r h0 h1]
    rcases (show r / 100 = 0 ∨ r / 100 = 1 ∨ r / 100 = 2 ∨ r / 100 = 3 by omega) with h | h | h | h <;> rw [h] <;> omega
  · rcases (show r < 398 ∨ r = 398 ∨ r = 399 by omega) with h | h | h
    · rw [show q * 400 + r + 1 + 1 + 1 = q * 400 + (r + 2) + 1 by omega, jan_at q (r + 2) (by omega) (by omega)]
      rcases (show (r + 2) / 100 = 0 ∨ (r + 2) / 100 = 1 ∨ (r + 2) / 100 = 2 ∨ (r + 2) / 100 = 3 by omega) with h | h | h | h <;> rw [h] <;> omega
    · subst h
      rw [show q * 400 + 398 + 1 + 1 + 1 = (q + 1) * 400 + 0 + 1 by omega, jan_at (q + 1) 0 (by omega) (by omega)]
      omega
    · subst h
      rw [show q * 400 + 399 + 1 + 1 + 1 = (q + 1) * 400 + 1 + 1 by omega, jan_at (q + 1) 1 (by omega) (by omega)]
      omega

/-- the year in which a day lies -/
def yearOf (n : Int) : Int :=
  if jan (((n - 1721426) * 400).fdiv 146097 + 1 + 1) ≤ n then ((n - 1721426) * 400).fdiv 146097 + 1 + 1 else ((n - 1721426) * 400).fdiv 146097 + 1

theorem yearOf_hi {n : Int} (h : jan (((n - 1721426) * 400).fdiv 146097 + 1 + 1) ≤ n) : ((n - 1721426) * 400).fdiv 146097 + 1 + 1 = yearOf n := by
  unfold yearOf
  rw [if_pos h]
theorem yearOf_lo {n : Int} (h : ¬ jan (((n - 1721426) * 400).fdiv 146097 + 1 + 1) ≤ n) : ((n - 1721426) * 400).fdiv 146097 + 1 = yearOf n := by
  unfold yearOf
  rw [if_neg h]

theorem yearOf_spec (n : Int) : jan (yearOf n) ≤ n ∧ n < jan (yearOf n + 1) := by
  have h := jan_guess n
  unfold yearOf
  split <;> omega

theorem jan_mono_nat (y : Int) : ∀ k : Nat, jan y ≤ jan (y + k)
  | 0 => by simp
  | k + 1 => by
    have h := jan_mono_nat y k
    have s := jan_step (y + k)
    rw [show y + ((k + 1 : Nat) : Int) = y + k + 1 by omega]
    omega
theorem jan_mono {a b : Int} (h : a ≤ b) : jan a ≤ jan b := by
  have := jan_mono_nat a (b - a).toNat
  rw [show a + ((b - a).toNat : Int) = b by omega] at this
  exact this

theorem yearOf_unique {n y : Int} (h1 : jan y ≤ n) (h2 : n < jan (y + 1)) : y = yearOf n := by
  have s := yearOf_spec n
  rcases Int.lt_trichotomy y (yearOf n) with h | h | h
  · have := jan_mono (a := y + 1) (b := yearOf n) (by omega)
    omega
  · exact h
  · have := jan_mono (a := yearOf n + 1) (b := y) (by omega)
    omega

theorem greg_year (n : Int) {d c e q f y : Int} (hd : d = (n - 1721426).fmod 146097) (hc : c = d.fdiv 36524) (he : e = d.fmod 36524) (hq : q = e.fdiv 1461) (hf : f = e.fmod 1461) (hy : y = f.fdiv 365) :
    ((c = 4 ∨ y = 4) → (n - 1721426).fdiv 146097 * 400 + c * 100 + q * 4 + y = yearOf n) ∧
    (¬ c = 4 → ¬ y = 4 → (n - 1721426).fdiv 146097 * 400 + c * 100 + q * 4 + y + 1 = yearOf n) := by
  rw [fmod_pos _ _ (by decide)] at hd he hf
  rw [fdiv_pos _ _ (by decide)] at hc hq hy
  rw [fdiv_pos _ _ (by decide)]
  have hn : n = 1721426 + 146097 * ((n - 1721426) / 146097) + d := by omega
  generalize (n - 1721426) / 146097 = Q at hn ⊢
  have d0 : 0 ≤ d := by omega
  have d1 : d < 146097 := by omega
  clear hd
  have hd : d = 36524 * c + e := by omega
  have e0 : 0 ≤ e := by omega
  have e1 : e < 36524 := by omega
  clear hc he
  have he : e = 1461 * q + f := by omega
  have f0 : 0 ≤ f := by omega
  have f1 : f < 1461 := by omega
  clear hq hf
  have y0 : 0 ≤ y := by omega
  have y1 : y ≤ 4 := by omega
  have y2 : 365 * y ≤ f := by omega
  have y3 : f < 365 * y + 365 := by omega
  clear hy
  have c0 : 0 ≤ c := by omega
  have c1 : c ≤ 4 := by omega
  have q0 : 0 ≤ q := by omega
  have q1 : q ≤ 24 := by omega
  -- the ordinary years: the year's place in its 400 years is r
  have ord : ∀ r : Int, r = c * 100 + q * 4 + y → c ≤ 3 → y ≤ 3 → (Q * 400 + c * 100 + q * 4 + y + 1) = yearOf n := by
    intro r hr hc3 hy3
    refine yearOf_unique ?_ ?_
    · rw [show Q * 400 + c * 100 + q * 4 + y + 1 = Q * 400 + r + 1 by omega, jan_at Q r (by omega) (by omega)]
      have r1 : r / 100 = c := by omega
      have r2 : r / 4 = c * 25 + q := by omega
      omega
    · have r1 : r / 100 = c := by omega
      have r2 : r / 4 = c * 25 + q := by omega
      have a := jan_at Q r (by omega) (by omega)
      have s := jan_step (Q * 400 + r + 1)
      rw [show Q * 400 + c * 100 + q * 4 + y + 1 + 1 = Q * 400 + r + 1 + 1 by omega]
      omega
  refine ⟨?_, fun h1 h2 => ?_⟩
  · intro h
    rcases h with h | h
    · -- the last day of 400 years
      have : q = 0 := by omega
      have : y = 0 := by omega
      subst h; subst this
      refine yearOf_unique ?_ ?_
      · rw [show Q * 400 + 4 * 100 + q * 4 + 0 = Q * 400 + 399 + 1 by omega, jan_at Q 399 (by omega) (by omega)]
        omega
      · rw [show Q * 400 + 4 * 100 + q * 4 + 0 + 1 = (Q + 1) * 400 + 0 + 1 by omega, jan_at (Q + 1) 0 (by omega) (by omega)]
        omega
    · have hq24 : q ≤ 23 := by omega
      have hc3 : c ≤ 3 := by omega
      subst h
      refine yearOf_unique ?_ ?_
      · rw [show Q * 400 + c * 100 + q * 4 + 4 = Q * 400 + (c * 100 + q * 4 + 3) + 1 by omega, jan_at Q (c * 100 + q * 4 + 3) (by omega) (by omega)]
        have r1 : (c * 100 + q * 4 + 3) / 100 = c := by omega
        have r2 : (c * 100 + q * 4 + 3) / 4 = c * 25 + q := by omega
        omega
      · rw [show Q * 400 + c * 100 + q * 4 + 4 + 1 = Q * 400 + (c * 100 + q * 4 + 4) + 1 by omega, jan_at Q (c * 100 + q * 4 + 4) (by omega) (by omega)]
        have r1 : (c * 100 + q * 4 + 4) / 100 = c := by omega
        have r2 : (c * 100 + q * 4 + 4) / 4 = c * 25 + q + 1 := by omega
        omega
  · exact ord _ rfl (by omega) (by omega)

def spring (y : Int) : Int := jan y + 80
def march (y : Int) : Int := jan y + 79 + jan (y + 1) - jan y - 365
def summer (y : Int) : Int := jan y + 201
/-- the first day of the year, by the row that is asked -/
def first (w y : Int) : Int := if w = 0 then spring y else if w = 1 then march y else summer y
/-- the last first day on or ahead of n -/
def opening (w n : Int) : Int := if n < first w (yearOf n) then first w (yearOf n - 1) else first w (yearOf n)

theorem first_bounds (w y : Int) : jan y + 79 ≤ first w y ∧ first w y ≤ jan y + 201 := by
  have := jan_step y
  unfold first spring march summer
  split
  · omega
  · split <;> omega

theorem row_facts (w n : Int) : first w (yearOf n - 1) ≤ n ∧ n < first w (yearOf n + 1) := by
  have s := yearOf_spec n
  have a := first_bounds w (yearOf n - 1)
  have b := first_bounds w (yearOf n + 1)
  have c := jan_step (yearOf n - 1)
  rw [Int.sub_add_cancel] at c
  omega

theorem opening_lo {w n : Int} (h : n < first w (yearOf n)) : opening w n = first w (yearOf n - 1) := by
  unfold opening; rw [if_pos h]
theorem opening_hi {w n : Int} (h : ¬ n < first w (yearOf n)) : opening w n = first w (yearOf n) := by
  unfold opening; rw [if_neg h]
theorem eve_lo (w : Int) {n : Int} (h : n < first w (yearOf n)) : first w (yearOf n - 1) - 1 = opening w n - 1 := by rw [opening_lo h]
theorem eve_hi (w : Int) {n : Int} (h : ¬ n < first w (yearOf n)) : first w (yearOf n) - 1 = opening w n - 1 := by rw [opening_hi h]

theorem opening_two {w : Int} (h0 : ¬ w = 0) (h1 : ¬ w = 1) (n : Int) : opening 2 n = opening w n := by
  have e : ∀ y, first w y = summer y := fun y => by unfold first; rw [if_neg h0, if_neg h1]
  have e2 : ∀ y, first 2 y = summer y := fun y => by unfold first; rw [if_neg (by decide), if_neg (by decide)]
  unfold opening
  simp only [e, e2]

theorem first_step (w y : Int) : first w y + 365 ≤ first w (y + 1) ∧ first w (y + 1) ≤ first w y + 366 := by
  have a := jan_step y
  have b := jan_step (y + 1)
  unfold first spring march summer
  split
  · omega
  · split <;> omega

theorem opening_span (w n : Int) : opening w n ≤ n ∧ n ≤ opening w n + 365 := by
  have r := row_facts w n
  have s := first_step w (yearOf n)
  have s' := first_step w (yearOf n - 1)
  rw [Int.sub_add_cancel] at s'
  unfold opening
  split <;> omega

/-- the month of a year's day (the first day is 0), by its place -/
def mon (c : Int) : Int := if c < 31 then 1 else if c < 62 then 2 else if c < 93 then 3 else if c < 124 then 4 else if c < 155 then 5 else if c < 186 then 6 else if c < 216 then 7 else if c < 246 then 8 else if c < 276 then 9 else if c < 306 then 10 else if c < 336 then 11 else 12
/-- the day of that month -/
def dom (c : Int) : Int := if c < 31 then c - 0 + 1 else if c < 62 then c - 31 + 1 else if c < 93 then c - 62 + 1 else if c < 124 then c - 93 + 1 else if c < 155 then c - 124 + 1 else if c < 186 then c - 155 + 1 else if c < 216 then c - 186 + 1 else if c < 246 then c - 216 + 1 else if c < 276 then c - 246 + 1 else if c < 306 then c - 276 + 1 else if c < 336 then c - 306 + 1 else c - 336 + 1

theorem due_low {c m : Int} (h0 : 0 ≤ c) (h : c < 186) (hm : m = -((-(c + 1)).fdiv 31)) : m = mon c ∧ c + 1 - (m - 1) * 31 = dom c := by
  rw [fdiv_pos _ _ (by decide)] at hm
  unfold mon dom
  rcases (show c < 31 ∨ 31 ≤ c ∧ c < 62 ∨ 62 ≤ c ∧ c < 93 ∨ 93 ≤ c ∧ c < 124 ∨ 124 ≤ c ∧ c < 155 ∨ 155 ≤ c by omega) with h' | h' | h' | h' | h' | h' <;> omega
theorem due_high {c m : Int} (h : 186 ≤ c) (h1 : c ≤ 365) (hm : m = -((-(c + 1 - 6)).fdiv 30)) : m = mon c ∧ c + 1 - (m - 1) * 30 - 6 = dom c := by
  rw [fdiv_pos _ _ (by decide)] at hm
  unfold mon dom
  rcases (show c < 216 ∨ 216 ≤ c ∧ c < 246 ∨ 246 ≤ c ∧ c < 276 ∨ 276 ≤ c ∧ c < 306 ∨ 306 ≤ c ∧ c < 336 ∨ 336 ≤ c by omega) with h' | h' | h' | h' | h' | h' <;> omega

/-- what from_jd reckons from the eve that it was told -/
theorem told_low (w n : Int) (h : n - (opening w n - 1) ≤ 186) : -((-(n - (opening w n - 1))).fdiv 31) = mon (n - opening w n) ∧ n - (opening w n - 1) - (-((-(n - (opening w n - 1))).fdiv 31) - 1) * 31 = dom (n - opening w n) := by
  have s := opening_span w n
  rw [show n - (opening w n - 1) = n - opening w n + 1 by omega] at h ⊢
  exact due_low (by omega) (by omega) rfl
theorem told_high (w n : Int) (h : ¬ n - (opening w n - 1) ≤ 186) : -((-(n - (opening w n - 1) - 6)).fdiv 30) = mon (n - opening w n) ∧ n - (opening w n - 1) - (-((-(n - (opening w n - 1) - 6)).fdiv 30) - 1) * 30 - 6 = dom (n - opening w n) := by
  have s := opening_span w n
  rw [show n - (opening w n - 1) = n - opening w n + 1 by omega] at h ⊢
  exact due_high (by omega) (by omega) rfl

/-- a leap year -/
def leap (y : Int) : Bool := y.fmod 4 == 0 && (!(y.fmod 100 == 0) || y.fmod 400 == 0)

end Mine

namespace Mine

abbrev Led := List (Addr × Obj)

/-- a call of the def at f with vs, up to k frames deep, hands back what Out says and leaves the ledger as it was -/
def Tell (w : World) (mean : ExcName → Option Value) (mg mb : Str → Option Value) (f : Addr) (k : Nat) (vs : List Value) (Out : Value → Prop) : Prop :=
  ∀ (dp un : Nat) (gd : Option (List Code)) (cn : Str) (cs : Scope) (a : Addr) (ccd : Value) (cl : List (Str × Addr)) (outer : List Env) (A₀ : Around) (base h₀ : Heap) (L : Addr) (m : Str → Option Value) (news : Led) (s : Shared) (Q E : Value → Shared → Prop),
    Below A₀ base outer h₀ → Fr h₀ L s.heap m → (Mine.hd.heap_39 w.params).In h₀ → News h₀ L s.heap news →
    Top Mine.hd.view_39 (looseW Mine.hd.view_39 [Str.ofString "from_jd_gregorian", Str.ofString "from_jd_persian"]) mean mg mb h₀ → cs.kind = .function → dp + k < recursionLimit → un + 8 * k < cLine →
    (∀ (v : Value) (h' : Heap) (tk' : Nat), Out v → Fr h₀ L h' m → News h₀ L h' news → Q v { s with heap := h', toks := tk' }) →
    wpAny (model PySem.Challenge.rw_aq6010_01.row.prog w) (ktrTop dp un gd cn cs L a ccd cl outer) (call (.ref f) vs) Q E s

theorem tell_use {w : World} {mean : ExcName → Option Value} {mg mb : Str → Option Value} {f : Addr} {k : Nat} {vs : List Value} {Out : Value → Prop} (C : Tell w mean mg mb f k vs Out)
    {dp un : Nat} {gd : Option (List Code)} {cn : Str} {cs : Scope} {a : Addr} {ccd : Value} {cl : List (Str × Addr)} {outer : List Env} {A₀ : Around} {base h₀ : Heap} {L : Addr} {m : Str → Option Value} {news : Led} {s : Shared} {Q E : Value → Shared → Prop}
    (B : Below A₀ base outer h₀) (F : Fr h₀ L s.heap m) (X : (Mine.hd.heap_39 w.params).In h₀) (N : News h₀ L s.heap news)
    (T : Top Mine.hd.view_39 (looseW Mine.hd.view_39 [Str.ofString "from_jd_gregorian", Str.ofString "from_jd_persian"]) mean mg mb h₀) (hk : cs.kind = .function) (hd : dp + k < recursionLimit) (hu : un + 8 * k < cLine)
    (ret : ∀ (v : Value) (h' : Heap) (tk' : Nat), Out v → Fr h₀ L h' m → News h₀ L h' news → Q v { s with heap := h', toks := tk' }) :
    wpAny (model PySem.Challenge.rw_aq6010_01.row.prog w) (ktrTop dp un gd cn cs L a ccd cl outer) (call (.ref f) vs) Q E s := C dp un gd cn cs a ccd cl outer A₀ base h₀ L m news s Q E B F X N T hk hd hu ret

-- a def that has no word of its own: walked where it is called, at a depth that is a letter too
local macro_rules | `(tactic| k_room) => `(tactic| ktr_room)

theorem in_topTup {prog : Program} {w : World} {A : Around} {E : Value → Shared → Prop} {s : Shared} {K : Frag} {h₀ : Heap} {L a : Addr} {m : Str → Option Value} {l : List Value} {ns : List Int} {dd : Option Addr} {sl : Array (Option Value)} {n : Nat} {x : Int} {u : Tok} {Q : Value → Shared → Prop}
    (F : Fr h₀ L s.heap m) (X₀ : K.In h₀) (hl : K.lookup a = some ⟨.type "tuple", dd, .seq l.toArray n, sl⟩) (hi : IntsAre l ns) (h : Q (.bool (ns.any (· == x))) s) :
    wpAny (model prog w) A (compareOp .In (.int x u) (.ref a)) Q E s := in_tuple_ints (tupK (X₀.keeps F.keep) hl) hi h
local macro_rules | `(tactic| walk_at "compareOp In int ref") => `(tactic| (k_here; k_dflt (refine' in_topTup ?F ?X ?l ?i ?_; (case F => k_asm); (case X => k_asm); (case l => k_is); (case i => (repeat constructor)); k_whole)))

section
variable {w : World} {mean : ExcName → Option Value} {mg mb : Str → Option Value}
set_option maxRecDepth 100000 in
set_option maxHeartbeats 8000000 in
theorem jan_tells (y : Int) (t : Tok) : Tell w mean mg mb 78 2 [.int y t] (fun v => ∃ u, v = .int (jan y) u) := by
  unfold Tell
  k_fill
  intro dp un gd cn cs a ccd cl outer A₀ base h₀ L m news s Q E B F X N T hk hd hu hret
  refine wpAny_call ?_
  k_dflt cell_enter
  k_steps
  all_goals (focus ((refine hret _ _ _ ⟨_, rfl⟩ ?_ ?_); (focus k_asm); (first | k_asm | (refine cb_drop (by assumption) ?_; first | kcj_all | exact fun _ h9 => .tail _ h9 | exact fun _ h9 => .tail _ (.tail _ h9)))))

set_option maxRecDepth 100000 in
set_option maxHeartbeats 8000000 in
theorem leap_tells (y : Int) (t : Tok) : Tell w mean mg mb 21 2 [.int y t] (fun v => v = .bool (leap y)) := by
  unfold Tell
  k_fill
  intro dp un gd cn cs a ccd cl outer A₀ base h₀ L m news s Q E B F X N T hk hd hu hret
  refine wpAny_call ?_
  k_dflt cell_enter
  k_steps
  all_goals first | (focus ((refine hret _ _ _ (by first | rfl | (simp_all [leap, bne]; done)) ?_ ?_); (focus k_asm); (first | k_asm | (refine cb_drop (by assumption) ?_; first | kcj_all | exact fun _ h9 => .tail _ h9 | exact fun _ h9 => .tail _ (.tail _ h9))))) | w_report

local macro_rules | `(tactic| walk_at "call ref") => `(tactic| (k_here; k_dflt (refine' tell_use (leap_tells _ _) ?k1 ?k2 ?k3 ?k4 ?k5 ?kK ?kd ?ku ?_; (case k1 => k_asm); (case k2 => k_asm); (case k3 => k_asm); (case k4 => k_asm); (case k5 => k_asm); (case kK => first | exact rfl | assumption); (case kd => ktr_room); (case ku => ktr_units); k_whole); intro v9 h9 tk9 O9 F9 N9;  subst O9; (try dsimp only); (try k_fold)))

set_option maxRecDepth 100000 in
set_option maxHeartbeats 8000000 in
theorem legal_tells (y m1 : Int) (t t' t'' : Tok) : Tell w mean mg mb 29 3 [.int y t, .int m1 t', .int 1 t''] (fun v => True) := by
  unfold Tell
  k_fill
  intro dp un gd cn cs a ccd cl outer A₀ base h₀ L m news s Q E B F X N T hk hd hu hret
  refine wpAny_call ?_
  k_dflt cell_enter
  k_steps
  all_goals first | (focus ((refine hret _ _ _ True.intro ?_ ?_); (focus k_asm); (first | k_asm | (refine cb_drop (by assumption) ?_; first | kcj_all | exact fun _ h9 => .tail _ h9 | exact fun _ h9 => .tail _ (.tail _ h9))))) | w_report

local macro_rules | `(tactic| walk_at "call ref") => `(tactic| (k_here; k_dflt (refine' tell_use (legal_tells _ _ _ _ _) ?k1 ?k2 ?k3 ?k4 ?k5 ?kK ?kd ?ku ?_; (case k1 => k_asm); (case k2 => k_asm); (case k3 => k_asm); (case k4 => k_asm); (case k5 => k_asm); (case kK => first | exact rfl | assumption); (case kd => ktr_room); (case ku => ktr_units); k_whole); intro v9 h9 tk9 O9 F9 N9;  clear O9; (try dsimp only); (try k_fold)))

set_option maxRecDepth 100000 in
set_option maxHeartbeats 8000000 in
theorem gto_tells (y m1 : Int) (t t' t'' : Tok) : Tell w mean mg mb 36 4 [.int y t, .int m1 t', .int 1 t''] (fun v => ∃ x u, v = .int x u) := by
  unfold Tell
  k_fill
  intro dp un gd cn cs a ccd cl outer A₀ base h₀ L m news s Q E B F X N T hk hd hu hret
  refine wpAny_call ?_
  k_dflt cell_enter
  k_steps
  all_goals first | (focus ((refine hret _ _ _ ⟨_, _, rfl⟩ ?_ ?_); (focus k_asm); (first | k_asm | (refine cb_drop (by assumption) ?_; first | kcj_all | exact fun _ h9 => .tail _ h9 | exact fun _ h9 => .tail _ (.tail _ h9))))) | w_report

local macro_rules | `(tactic| walk_at "call ref") => `(tactic| (k_here; k_dflt (refine' tell_use (gto_tells _ _ _ _ _) ?k1 ?k2 ?k3 ?k4 ?k5 ?kK ?kd ?ku ?_; (case k1 => k_asm); (case k2 => k_asm); (case k3 => k_asm); (case k4 => k_asm); (case k5 => k_asm); (case kK => first | exact rfl | assumption); (case kd => ktr_room); (case ku => ktr_units); k_whole); intro v9 h9 tk9 O9 F9 N9;  obtain ⟨x9, u9, e9⟩ := O9; subst e9; (try dsimp only); (try k_fold)))

end
end Mine

namespace Mine

/-- a call that hands back a new triple of ints, the first of them y -/
def Tell3 (w : World) (mean : ExcName → Option Value) (mg mb : Str → Option Value) (f : Addr) (k : Nat) (vs : List Value) (y : Int) : Prop :=
  ∀ (dp un : Nat) (gd : Option (List Code)) (cn : Str) (cs : Scope) (a : Addr) (ccd : Value) (cl : List (Str × Addr)) (outer : List Env) (A₀ : Around) (base h₀ : Heap) (L : Addr) (m : Str → Option Value) (news : Led) (s : Shared) (Q E : Value → Shared → Prop),
    Below A₀ base outer h₀ → Fr h₀ L s.heap m → (Mine.hd.heap_39 w.params).In h₀ → News h₀ L s.heap news →
    Top Mine.hd.view_39 (looseW Mine.hd.view_39 [Str.ofString "from_jd_gregorian", Str.ofString "from_jd_persian"]) mean mg mb h₀ → cs.kind = .function → dp + k < recursionLimit → un + 8 * k < cLine →
    (∀ (D : Addr) (y' x2 x3 : Int) (t1 t2 t3 : Tok) (c : Nat) (h' : Heap) (tk' : Nat), y' = y → Fr h₀ L h' m → News h₀ L h' ((D, ({ cls := .type "tuple", data := .seq #[.int y' t1, .int x2 t2, .int x3 t3] c } : Obj)) :: news) → AllLt D news → Q (.ref D) { s with heap := h', toks := tk' }) →
    wpAny (model PySem.Challenge.rw_aq6010_01.row.prog w) (ktrTop dp un gd cn cs L a ccd cl outer) (call (.ref f) vs) Q E s

local macro_rules | `(tactic| k_room) => `(tactic| ktr_room)
local macro_rules | `(tactic| walk_at "call ref") => `(tactic| (k_here; k_dflt (refine' tell_use (leap_tells _ _) ?k1 ?k2 ?k3 ?k4 ?k5 ?kK ?kd ?ku ?_; (case k1 => k_asm); (case k2 => k_asm); (case k3 => k_asm); (case k4 => k_asm); (case k5 => k_asm); (case kK => first | exact rfl | assumption); (case kd => ktr_room); (case ku => ktr_units); k_whole); intro v9 h9 tk9 O9 F9 N9;  subst O9; (try dsimp only); (try k_fold)))

local macro_rules | `(tactic| walk_at "call ref") => `(tactic| (k_here; k_dflt (refine' tell_use (gto_tells _ _ _ _ _) ?k1 ?k2 ?k3 ?k4 ?k5 ?kK ?kd ?ku ?_; (case k1 => k_asm); (case k2 => k_asm); (case k3 => k_asm); (case k4 => k_asm); (case k5 => k_asm); (case kK => first | exact rfl | assumption); (case kd => ktr_room); (case ku => ktr_units); k_whole); intro v9 h9 tk9 O9 F9 N9;  obtain ⟨x9, u9, e9⟩ := O9; subst e9; (try dsimp only); (try k_fold)))

-- a test that the end does not ask about is walked both ways, no look at the facts
local macro_rules | `(tactic| walk_at "ite") => `(tactic| ((with_reducible show ite (_ < _) _ _); (refine split_dec ?_ ?_ <;> intro _)))
local macro_rules | `(tactic| walk_at "ite") => `(tactic| ((with_reducible show ite (leap _ = true) _ _); first | (refine ite_pos (by with_reducible assumption) ?_) | (refine ite_neg (by with_reducible assumption) ?_) | (refine split_dec ?_ ?_ <;> intro _)))

section
variable {w : World} {mean : ExcName → Option Value} {mg mb : Str → Option Value}
set_option maxRecDepth 100000 in
set_option maxHeartbeats 8000000 in
theorem greg_tells (n : Int) (t : Tok) : Tell3 w mean mg mb 43 8 [.int n t] (yearOf n) := by
  unfold Tell3
  k_fill
  intro dp un gd cn cs a ccd cl outer A₀ base h₀ L m news s Q E B F X N T hk hd hu hret
  refine wpAny_call ?_
  k_dflt cell_enter
  k_steps
  all_goals (focus (
    refine' hret _ _ _ _ _ _ _ _ _ _ ?he ?hF ?hN ?hL
    (case hF => k_asm)
    (case hN => first | k_asm | (refine cb_drop (by assumption) ?_; kcj_all))
    (case hL => ktn_lt)
    (case he => first
      | exact (greg_year n rfl rfl rfl rfl rfl rfl).1 (Or.inl (by assumption))
      | exact (greg_year n rfl rfl rfl rfl rfl rfl).1 (Or.inr (by assumption))
      | exact (greg_year n rfl rfl rfl rfl rfl rfl).2 (by assumption) (by assumption))))
end
end Mine

namespace Mine
local macro_rules | `(tactic| k_room) => `(tactic| ktr_room)
local macro_rules | `(tactic| walk_at "call ref") => `(tactic| (k_here; k_dflt (refine' tell_use (jan_tells _ _) ?k1 ?k2 ?k3 ?k4 ?k5 ?kK ?kd ?ku ?_; (case k1 => k_asm); (case k2 => k_asm); (case k3 => k_asm); (case k4 => k_asm); (case k5 => k_asm); (case kK => first | exact rfl | assumption); (case kd => ktr_room); (case ku => ktr_units); k_whole); intro v9 h9 tk9 O9 F9 N9;  obtain ⟨u9, e9⟩ := O9; subst e9; (try dsimp only); (try k_fold)))

section
variable {w : World} {mean : ExcName → Option Value} {mg mb : Str → Option Value}
set_option maxRecDepth 100000 in
set_option maxHeartbeats 8000000 in
theorem spring_tells (y : Int) (t : Tok) : Tell w mean mg mb 92 3 [.int y t] (fun v => ∃ u, v = .int (spring y) u) := by
  unfold Tell
  k_fill
  intro dp un gd cn cs a ccd cl outer A₀ base h₀ L m news s Q E B F X N T hk hd hu hret
  refine wpAny_call ?_
  k_dflt cell_enter
  k_steps
  all_goals first | (focus ((refine hret _ _ _ ⟨_, rfl⟩ ?_ ?_); (focus k_asm); (first | k_asm | (refine cb_drop (by assumption) ?_; first | kcj_all | exact fun _ h9 => .tail _ h9 | exact fun _ h9 => .tail _ (.tail _ h9))))) | w_report

set_option maxRecDepth 100000 in
set_option maxHeartbeats 8000000 in
theorem march_tells (y : Int) (t : Tok) : Tell w mean mg mb 99 3 [.int y t] (fun v => ∃ u, v = .int (march y) u) := by
  unfold Tell
  k_fill
  intro dp un gd cn cs a ccd cl outer A₀ base h₀ L m news s Q E B F X N T hk hd hu hret
  refine wpAny_call ?_
  k_dflt cell_enter
  k_steps
  all_goals first | (focus ((refine hret _ _ _ ⟨_, rfl⟩ ?_ ?_); (focus k_asm); (first | k_asm | (refine cb_drop (by assumption) ?_; first | kcj_all | exact fun _ h9 => .tail _ h9 | exact fun _ h9 => .tail _ (.tail _ h9))))) | w_report

set_option maxRecDepth 100000 in
set_option maxHeartbeats 8000000 in
theorem summer_tells (y : Int) (t : Tok) : Tell w mean mg mb 106 3 [.int y t] (fun v => ∃ u, v = .int (summer y) u) := by
  unfold Tell
  k_fill
  intro dp un gd cn cs a ccd cl outer A₀ base h₀ L m news s Q E B F X N T hk hd hu hret
  refine wpAny_call ?_
  k_dflt cell_enter
  k_steps
  all_goals first | (focus ((refine hret _ _ _ ⟨_, rfl⟩ ?_ ?_); (focus k_asm); (first | k_asm | (refine cb_drop (by assumption) ?_; first | kcj_all | exact fun _ h9 => .tail _ h9 | exact fun _ h9 => .tail _ (.tail _ h9))))) | w_report

end
end Mine

namespace Mine
local macro_rules | `(tactic| k_room) => `(tactic| ktr_room)
theorem whlIf_dec {c : Prop} [Decidable c] {T F : Prop} (t : c → T) (f : ¬ c → F) : WhlIf (decide c) T F := by
  by_cases h : c
  · exact WhlIf.yes (decide_eq_true h) (t h)
  · exact WhlIf.no (decide_eq_false h) (f h)
local macro_rules | `(tactic| walk_at "call ref") => `(tactic| (k_here; k_dflt (refine' tell_use (jan_tells _ _) ?k1 ?k2 ?k3 ?k4 ?k5 ?kK ?kd ?ku ?_; (case k1 => k_asm); (case k2 => k_asm); (case k3 => k_asm); (case k4 => k_asm); (case k5 => k_asm); (case kK => first | exact rfl | assumption); (case kd => ktr_room); (case ku => ktr_units); k_whole); intro v9 h9 tk9 O9 F9 N9;  obtain ⟨u9, e9⟩ := O9; subst e9; (try dsimp only); (try k_fold)))

local macro_rules | `(tactic| walk_at "exec While Compare cons nil") => `(tactic| (k_here; k_dflt (refine whl_start 100 ?_)))
theorem whl_a {n : Int} {T F : Prop} (f : F) : WhlIf (decide (n < jan (((n - 1721426) * 400).fdiv 146097 + 1))) T F := WhlIf.no (decide_eq_false (Int.not_lt.mpr (jan_guess n).1)) f
theorem whl_b {n : Int} {T F : Prop} (f : F) : WhlIf (decide (jan (((n - 1721426) * 400).fdiv 146097 + 1 + 1 + 1) ≤ n)) T F := WhlIf.no (decide_eq_false (Int.not_le.mpr (jan_guess n).2)) f
local macro_rules | `(tactic| walk_at "WhlIf") => `(tactic| first
  | with_reducible refine whl_a ?_
  | with_reducible refine whl_b ?_
  | (with_reducible refine whlIf_dec ?_ ?_ <;> intro _))
section
variable {w : World} {mean : ExcName → Option Value} {mg mb : Str → Option Value}
set_option maxRecDepth 100000 in
set_option maxHeartbeats 8000000 in
theorem year_of_tells (n : Int) (t : Tok) : Tell w mean mg mb 85 3 [.int n t] (fun v => ∃ u, v = .int (yearOf n) u) := by
  unfold Tell
  k_fill
  intro dp un gd cn cs a ccd cl outer A₀ base h₀ L m news s Q E B F X N T hk hd hu hret
  refine wpAny_call ?_
  k_dflt cell_enter
  k_steps
  all_goals first | (focus ((refine hret _ _ _ ⟨_, congrArg (fun z => Value.int z _) (by first | exact yearOf_hi (by assumption) | exact yearOf_lo (by assumption))⟩ ?_ ?_); (focus k_asm); (first | k_asm | (refine cb_drop (by assumption) ?_; first | kcj_all | exact fun _ h9 => .tail _ h9 | exact fun _ h9 => .tail _ (.tail _ h9))))) | w_report

end
end Mine

namespace Mine
local macro_rules | `(tactic| k_room) => `(tactic| ktr_room)
local macro_rules | `(tactic| walk_at "call ref") => `(tactic| (k_here; k_dflt (refine' tell_use (jan_tells _ _) ?k1 ?k2 ?k3 ?k4 ?k5 ?kK ?kd ?ku ?_; (case k1 => k_asm); (case k2 => k_asm); (case k3 => k_asm); (case k4 => k_asm); (case k5 => k_asm); (case kK => first | exact rfl | assumption); (case kd => ktr_room); (case ku => ktr_units); k_whole); intro v9 h9 tk9 O9 F9 N9;  obtain ⟨u9, e9⟩ := O9; subst e9; (try dsimp only); (try k_fold)))

local macro_rules | `(tactic| walk_at "call ref") => `(tactic| (k_here; k_dflt (refine' tell_use (spring_tells _ _) ?k1 ?k2 ?k3 ?k4 ?k5 ?kK ?kd ?ku ?_; (case k1 => k_asm); (case k2 => k_asm); (case k3 => k_asm); (case k4 => k_asm); (case k5 => k_asm); (case kK => first | exact rfl | assumption); (case kd => ktr_room); (case ku => ktr_units); k_whole); intro v9 h9 tk9 O9 F9 N9;  obtain ⟨u9, e9⟩ := O9; subst e9; (try dsimp only); (try k_fold)))

local macro_rules | `(tactic| walk_at "call ref") => `(tactic| (k_here; k_dflt (refine' tell_use (march_tells _ _) ?k1 ?k2 ?k3 ?k4 ?k5 ?kK ?kd ?ku ?_; (case k1 => k_asm); (case k2 => k_asm); (case k3 => k_asm); (case k4 => k_asm); (case k5 => k_asm); (case kK => first | exact rfl | assumption); (case kd => ktr_room); (case ku => ktr_units); k_whole); intro v9 h9 tk9 O9 F9 N9;  obtain ⟨u9, e9⟩ := O9; subst e9; (try dsimp only); (try k_fold)))

local macro_rules | `(tactic| walk_at "call ref") => `(tactic| (k_here; k_dflt (refine' tell_use (summer_tells _ _) ?k1 ?k2 ?k3 ?k4 ?k5 ?kK ?kd ?ku ?_; (case k1 => k_asm); (case k2 => k_asm); (case k3 => k_asm); (case k4 => k_asm); (case k5 => k_asm); (case kK => first | exact rfl | assumption); (case kd => ktr_room); (case ku => ktr_units); k_whole); intro v9 h9 tk9 O9 F9 N9;  obtain ⟨u9, e9⟩ := O9; subst e9; (try dsimp only); (try k_fold)))

local macro_rules | `(tactic| walk_at "call ref") => `(tactic| (k_here; k_dflt (refine' tell_use (year_of_tells _ _) ?k1 ?k2 ?k3 ?k4 ?k5 ?kK ?kd ?ku ?_; (case k1 => k_asm); (case k2 => k_asm); (case k3 => k_asm); (case k4 => k_asm); (case k5 => k_asm); (case kK => first | exact rfl | assumption); (case kd => ktr_room); (case ku => ktr_units); k_whole); intro v9 h9 tk9 O9 F9 N9;  obtain ⟨u9, e9⟩ := O9; subst e9; (try dsimp only); (try k_fold)))

section
variable {w : World} {mean : ExcName → Option Value} {mg mb : Str → Option Value}
set_option maxRecDepth 100000 in
set_option maxHeartbeats 8000000 in
theorem first_tells (a y : Int) (t t' : Tok) : Tell w mean mg mb 120 4 [.int a t, .int y t'] (fun v => ∃ u, v = .int (first a y) u) := by
  unfold Tell
  k_fill
  intro dp un gd cn cs a ccd cl outer A₀ base h₀ L m news s Q E B F X N T hk hd hu hret
  refine wpAny_call ?_
  k_dflt cell_enter
  k_steps
  all_goals first | (focus ((refine hret _ _ _ ⟨_, congrArg (fun z => Value.int z _) (by unfold first; simp only [*, if_true, if_false]; first | done | rfl)⟩ ?_ ?_); (focus k_asm); (first | k_asm | (refine cb_drop (by assumption) ?_; first | kcj_all | exact fun _ h9 => .tail _ h9 | exact fun _ h9 => .tail _ (.tail _ h9))))) | w_report

local macro_rules | `(tactic| walk_at "call ref") => `(tactic| (k_here; k_dflt (refine' tell_use (first_tells _ _ _ _) ?k1 ?k2 ?k3 ?k4 ?k5 ?kK ?kd ?ku ?_; (case k1 => k_asm); (case k2 => k_asm); (case k3 => k_asm); (case k4 => k_asm); (case k5 => k_asm); (case kK => first | exact rfl | assumption); (case kd => ktr_room); (case ku => ktr_units); k_whole); intro v9 h9 tk9 O9 F9 N9;  obtain ⟨u9, e9⟩ := O9; subst e9; (try dsimp only); (try k_fold)))

set_option maxRecDepth 100000 in
set_option maxHeartbeats 8000000 in
theorem open_tells (a n : Int) (t t' : Tok) : Tell w mean mg mb 148 6 [.int a t, .int n t'] (fun v => ∃ u, v = .int (opening a n) u) := by
  unfold Tell
  k_fill
  intro dp un gd cn cs a ccd cl outer A₀ base h₀ L m news s Q E B F X N T hk hd hu hret
  refine wpAny_call ?_
  k_dflt cell_enter
  k_steps
  all_goals first | (focus ((refine hret _ _ _ ⟨_, congrArg (fun z => Value.int z _) (by unfold opening; simp only [*, if_true, if_false]; first | done | rfl)⟩ ?_ ?_); (focus k_asm); (first | k_asm | (refine cb_drop (by assumption) ?_; first | kcj_all | exact fun _ h9 => .tail _ h9 | exact fun _ h9 => .tail _ (.tail _ h9))))) | w_report

end
end Mine

namespace Mine
local macro_rules | `(tactic| k_room) => `(tactic| ktr_room)
local macro_rules | `(tactic| walk_at "call ref") => `(tactic| (k_here; k_dflt (refine' tell_use (jan_tells _ _) ?k1 ?k2 ?k3 ?k4 ?k5 ?kK ?kd ?ku ?_; (case k1 => k_asm); (case k2 => k_asm); (case k3 => k_asm); (case k4 => k_asm); (case k5 => k_asm); (case kK => first | exact rfl | assumption); (case kd => ktr_room); (case ku => ktr_units); k_whole); intro v9 h9 tk9 O9 F9 N9;  obtain ⟨u9, e9⟩ := O9; subst e9; (try dsimp only); (try k_fold)))

local macro_rules | `(tactic| walk_at "call ref") => `(tactic| (k_here; k_dflt (refine' tell_use (spring_tells _ _) ?k1 ?k2 ?k3 ?k4 ?k5 ?kK ?kd ?ku ?_; (case k1 => k_asm); (case k2 => k_asm); (case k3 => k_asm); (case k4 => k_asm); (case k5 => k_asm); (case kK => first | exact rfl | assumption); (case kd => ktr_room); (case ku => ktr_units); k_whole); intro v9 h9 tk9 O9 F9 N9;  obtain ⟨u9, e9⟩ := O9; subst e9; (try dsimp only); (try k_fold)))

local macro_rules | `(tactic| walk_at "call ref") => `(tactic| (k_here; k_dflt (refine' tell_use (march_tells _ _) ?k1 ?k2 ?k3 ?k4 ?k5 ?kK ?kd ?ku ?_; (case k1 => k_asm); (case k2 => k_asm); (case k3 => k_asm); (case k4 => k_asm); (case k5 => k_asm); (case kK => first | exact rfl | assumption); (case kd => ktr_room); (case ku => ktr_units); k_whole); intro v9 h9 tk9 O9 F9 N9;  obtain ⟨u9, e9⟩ := O9; subst e9; (try dsimp only); (try k_fold)))

local macro_rules | `(tactic| walk_at "call ref") => `(tactic| (k_here; k_dflt (refine' tell_use (summer_tells _ _) ?k1 ?k2 ?k3 ?k4 ?k5 ?kK ?kd ?ku ?_; (case k1 => k_asm); (case k2 => k_asm); (case k3 => k_asm); (case k4 => k_asm); (case k5 => k_asm); (case kK => first | exact rfl | assumption); (case kd => ktr_room); (case ku => ktr_units); k_whole); intro v9 h9 tk9 O9 F9 N9;  obtain ⟨u9, e9⟩ := O9; subst e9; (try dsimp only); (try k_fold)))

theorem tell3_use {w : World} {mean : ExcName → Option Value} {mg mb : Str → Option Value} {f : Addr} {k : Nat} {vs : List Value} {y : Int} (C : Tell3 w mean mg mb f k vs y)
    {dp un : Nat} {gd : Option (List Code)} {cn : Str} {cs : Scope} {a : Addr} {ccd : Value} {cl : List (Str × Addr)} {outer : List Env} {A₀ : Around} {base h₀ : Heap} {L : Addr} {m : Str → Option Value} {news : Led} {s : Shared} {Q E : Value → Shared → Prop}
    (B : Below A₀ base outer h₀) (F : Fr h₀ L s.heap m) (X : (Mine.hd.heap_39 w.params).In h₀) (N : News h₀ L s.heap news)
    (T : Top Mine.hd.view_39 (looseW Mine.hd.view_39 [Str.ofString "from_jd_gregorian", Str.ofString "from_jd_persian"]) mean mg mb h₀) (hk : cs.kind = .function) (hd : dp + k < recursionLimit) (hu : un + 8 * k < cLine)
    (ret : ∀ (D : Addr) (y' x2 x3 : Int) (t1 t2 t3 : Tok) (c : Nat) (h' : Heap) (tk' : Nat), y' = y → Fr h₀ L h' m → News h₀ L h' ((D, ({ cls := .type "tuple", data := .seq #[.int y' t1, .int x2 t2, .int x3 t3] c } : Obj)) :: news) → AllLt D news → Q (.ref D) { s with heap := h', toks := tk' }) :
    wpAny (model PySem.Challenge.rw_aq6010_01.row.prog w) (ktrTop dp un gd cn cs L a ccd cl outer) (call (.ref f) vs) Q E s := C dp un gd cn cs a ccd cl outer A₀ base h₀ L m news s Q E B F X N T hk hd hu ret
local macro_rules | `(tactic| walk_at "call ref") => `(tactic| (k_here; k_dflt (refine' tell3_use (greg_tells _ _) ?k1 ?k2 ?k3 ?k4 ?k5 ?kK ?kd ?ku ?_; (case k1 => k_asm); (case k2 => k_asm); (case k3 => k_asm); (case k4 => k_asm); (case k5 => k_asm); (case kK => first | exact rfl | assumption); (case kd => ktr_room); (case ku => ktr_units); k_whole); intro D9 y9 x9 z9 t9 t8 t7 c9 h9 tk9 e9 F9 N9 L9; subst e9; (try k_sweep); (try dsimp only); (try k_fold)))
local macro_rules | `(tactic| walk_at "exec While Compare cons nil") => `(tactic| (k_here; k_dflt (refine whl_start 100 ?_)))
local macro_rules | `(tactic| walk_at "exec While UnaryOp") => `(tactic| (k_here; k_dflt (refine whl_start 100 ?_)))
local macro_rules | `(tactic| walk_at "exec While") => `(tactic| (k_here; k_dflt (refine whl_start 100 ?_)))
theorem whl_not_yes {c : Prop} [Decidable c] {T F : Prop} (h : ¬ c) (t : T) : WhlIf (!decide c) T F := WhlIf.yes (by rw [decide_eq_false h]; rfl) t
theorem whl_not_no {c : Prop} [Decidable c] {T F : Prop} (h : c) (f : F) : WhlIf (!decide c) T F := WhlIf.no (by rw [decide_eq_true h]; rfl) f
local macro_rules | `(tactic| walk_at "WhlIf") => `(tactic| first
  | (refine WhlIf.no (by with_reducible rfl) ?_)
  | (refine WhlIf.yes (by with_reducible rfl) ?_)
  | (with_reducible refine WhlIf.no (decide_eq_false ?wf) ?_; (case wf => omega))
  | (with_reducible refine WhlIf.yes (decide_eq_true ?wf) ?_; (case wf => omega))
  | (with_reducible refine whl_not_yes ?wf ?_; (case wf => omega))
  | (with_reducible refine whl_not_no ?wf ?_; (case wf => omega))
  | (with_reducible refine whlIf_dec ?_ ?_ <;> intro _))
theorem spring_lo {n : Int} (h : n < spring (yearOf n)) : spring (yearOf n - 1) - 1 = opening 0 n - 1 := eve_lo 0 h
theorem spring_hi {n : Int} (h : ¬ n < spring (yearOf n)) : spring (yearOf n) - 1 = opening 0 n - 1 := eve_hi 0 h
theorem march_lo {n : Int} (h : n < march (yearOf n)) : march (yearOf n - 1) - 1 = opening 1 n - 1 := eve_lo 1 h
theorem march_hi {n : Int} (h : ¬ n < march (yearOf n)) : march (yearOf n) - 1 = opening 1 n - 1 := eve_hi 1 h
theorem summer_lo {n : Int} (h : n < summer (yearOf n)) : summer (yearOf n - 1) - 1 = opening 2 n - 1 := eve_lo 2 h
theorem summer_hi {n : Int} (h : ¬ n < summer (yearOf n)) : summer (yearOf n) - 1 = opening 2 n - 1 := eve_hi 2 h
section
variable {w : World} {mean : ExcName → Option Value} {mg mb : Str → Option Value}
set_option maxRecDepth 100000 in
set_option maxHeartbeats 8000000 in
theorem eve_spring_tells (n : Int) (t : Tok) : Tell w mean mg mb 50 12 [.int n t, .ref 92] (fun v => ∃ u, v = .int (opening 0 n - 1) u) := by
  unfold Tell
  k_fill
  intro dp un gd cn cs a ccd cl outer A₀ base h₀ L m news s Q E B F X N T hk hd hu hret
  have r1 : spring (yearOf n - 1) ≤ n := (row_facts 0 n).1
  have r2 : n < spring (yearOf n + 1) := (row_facts 0 n).2
  have r3 : spring (yearOf n - 1 + 1) = spring (yearOf n) := by rw [Int.sub_add_cancel]
  refine wpAny_call ?_
  k_dflt cell_enter
  k_steps
  all_goals first | (focus ((refine hret _ _ _ ⟨_, congrArg (fun z => Value.int z _) (by first | (with_reducible exact spring_lo (by with_reducible assumption)) | (with_reducible exact spring_hi (by with_reducible assumption)))⟩ ?_ ?_); (focus k_asm); (first | k_asm | (refine cb_drop (by assumption) ?_; first | kcj_all | exact fun _ h9 => .tail _ h9 | exact fun _ h9 => .tail _ (.tail _ h9))))) | w_report

set_option maxRecDepth 100000 in
set_option maxHeartbeats 8000000 in
theorem eve_march_tells (n : Int) (t : Tok) : Tell w mean mg mb 50 12 [.int n t, .ref 99] (fun v => ∃ u, v = .int (opening 1 n - 1) u) := by
  unfold Tell
  k_fill
  intro dp un gd cn cs a ccd cl outer A₀ base h₀ L m news s Q E B F X N T hk hd hu hret
  have r1 : march (yearOf n - 1) ≤ n := (row_facts 1 n).1
  have r2 : n < march (yearOf n + 1) := (row_facts 1 n).2
  have r3 : march (yearOf n - 1 + 1) = march (yearOf n) := by rw [Int.sub_add_cancel]
  refine wpAny_call ?_
  k_dflt cell_enter
  k_steps
  all_goals first | (focus ((refine hret _ _ _ ⟨_, congrArg (fun z => Value.int z _) (by first | (with_reducible exact march_lo (by with_reducible assumption)) | (with_reducible exact march_hi (by with_reducible assumption)))⟩ ?_ ?_); (focus k_asm); (first | k_asm | (refine cb_drop (by assumption) ?_; first | kcj_all | exact fun _ h9 => .tail _ h9 | exact fun _ h9 => .tail _ (.tail _ h9))))) | w_report

set_option maxRecDepth 100000 in
set_option maxHeartbeats 8000000 in
theorem eve_summer_tells (n : Int) (t : Tok) : Tell w mean mg mb 50 12 [.int n t, .ref 106] (fun v => ∃ u, v = .int (opening 2 n - 1) u) := by
  unfold Tell
  k_fill
  intro dp un gd cn cs a ccd cl outer A₀ base h₀ L m news s Q E B F X N T hk hd hu hret
  have r1 : summer (yearOf n - 1) ≤ n := (row_facts 2 n).1
  have r2 : n < summer (yearOf n + 1) := (row_facts 2 n).2
  have r3 : summer (yearOf n - 1 + 1) = summer (yearOf n) := by rw [Int.sub_add_cancel]
  refine wpAny_call ?_
  k_dflt cell_enter
  k_steps
  all_goals first | (focus ((refine hret _ _ _ ⟨_, congrArg (fun z => Value.int z _) (by first | (with_reducible exact summer_lo (by with_reducible assumption)) | (with_reducible exact summer_hi (by with_reducible assumption)))⟩ ?_ ?_); (focus k_asm); (first | k_asm | (refine cb_drop (by assumption) ?_; first | kcj_all | exact fun _ h9 => .tail _ h9 | exact fun _ h9 => .tail _ (.tail _ h9))))) | w_report

end
end Mine

namespace Mine
local macro_rules | `(tactic| k_room) => `(tactic| ktr_room)
local macro_rules | `(tactic| walk_at "call ref") => `(tactic| (k_here; k_dflt (refine' tell_use (eve_spring_tells _ _) ?k1 ?k2 ?k3 ?k4 ?k5 ?kK ?kd ?ku ?_; (case k1 => k_asm); (case k2 => k_asm); (case k3 => k_asm); (case k4 => k_asm); (case k5 => k_asm); (case kK => first | exact rfl | assumption); (case kd => ktr_room); (case ku => ktr_units); k_whole); intro v9 h9 tk9 O9 F9 N9;  obtain ⟨u9, e9⟩ := O9; subst e9; (try dsimp only); (try k_fold)))

local macro_rules | `(tactic| walk_at "call ref") => `(tactic| (k_here; k_dflt (refine' tell_use (eve_march_tells _ _) ?k1 ?k2 ?k3 ?k4 ?k5 ?kK ?kd ?ku ?_; (case k1 => k_asm); (case k2 => k_asm); (case k3 => k_asm); (case k4 => k_asm); (case k5 => k_asm); (case kK => first | exact rfl | assumption); (case kd => ktr_room); (case ku => ktr_units); k_whole); intro v9 h9 tk9 O9 F9 N9;  obtain ⟨u9, e9⟩ := O9; subst e9; (try dsimp only); (try k_fold)))

local macro_rules | `(tactic| walk_at "call ref") => `(tactic| (k_here; k_dflt (refine' tell_use (eve_summer_tells _ _) ?k1 ?k2 ?k3 ?k4 ?k5 ?kK ?kd ?ku ?_; (case k1 => k_asm); (case k2 => k_asm); (case k3 => k_asm); (case k4 => k_asm); (case k5 => k_asm); (case kK => first | exact rfl | assumption); (case kd => ktr_room); (case ku => ktr_units); k_whole); intro v9 h9 tk9 O9 F9 N9;  obtain ⟨u9, e9⟩ := O9; subst e9; (try dsimp only); (try k_fold)))

section
variable {w : World} {mean : ExcName → Option Value} {mg mb : Str → Option Value}
set_option maxRecDepth 100000 in
set_option maxHeartbeats 8000000 in
theorem eve_tells (a n : Int) (t t' : Tok) : Tell w mean mg mb 127 14 [.int a t, .int n t'] (fun v => ∃ u, v = .int (opening a n - 1) u) := by
  unfold Tell
  k_fill
  intro dp un gd cn cs a ccd cl outer A₀ base h₀ L m news s Q E B F X N T hk hd hu hret
  refine wpAny_call ?_
  k_dflt cell_enter
  k_steps
  all_goals first | (focus ((refine hret _ _ _ ⟨_, congrArg (fun z => Value.int (z - 1) _) (by first | (subst_vars; with_reducible rfl) | (with_reducible exact opening_two (by with_reducible assumption) (by with_reducible assumption) n))⟩ ?_ ?_); (focus k_asm); (first | k_asm | (refine cb_drop (by assumption) ?_; first | kcj_all | exact fun _ h9 => .tail _ h9 | exact fun _ h9 => .tail _ (.tail _ h9))))) | w_report

end
end Mine

namespace Mine
local macro_rules | `(tactic| k_room) => `(tactic| ktr_room)
/-- a new pair of ints -/
def TellP2 (w : World) (mean : ExcName → Option Value) (mg mb : Str → Option Value) (f : Addr) (k : Nat) (vs : List Value) (P : Int → Int → Prop) : Prop :=
  ∀ (dp un : Nat) (gd : Option (List Code)) (cn : Str) (cs : Scope) (a : Addr) (ccd : Value) (cl : List (Str × Addr)) (outer : List Env) (A₀ : Around) (base h₀ : Heap) (L : Addr) (m : Str → Option Value) (news : Led) (s : Shared) (Q E : Value → Shared → Prop),
    Below A₀ base outer h₀ → Fr h₀ L s.heap m → (Mine.hd.heap_39 w.params).In h₀ → News h₀ L s.heap news →
    Top Mine.hd.view_39 (looseW Mine.hd.view_39 [Str.ofString "from_jd_gregorian", Str.ofString "from_jd_persian"]) mean mg mb h₀ → cs.kind = .function → dp + k < recursionLimit → un + 8 * k < cLine →
    (∀ (D : Addr) (x1 x2 : Int) (t1 t2 : Tok) (c : Nat) (h' : Heap) (tk' : Nat), P x1 x2 → Fr h₀ L h' m → News h₀ L h' ((D, ({ cls := .type "tuple", data := .seq #[.int x1 t1, .int x2 t2] c } : Obj)) :: news) → AllLt D news → Q (.ref D) { s with heap := h', toks := tk' }) →
    wpAny (model PySem.Challenge.rw_aq6010_01.row.prog w) (ktrTop dp un gd cn cs L a ccd cl outer) (call (.ref f) vs) Q E s

theorem tellP2_use {w : World} {mean : ExcName → Option Value} {mg mb : Str → Option Value} {f : Addr} {k : Nat} {vs : List Value} {P : Int → Int → Prop} (C : TellP2 w mean mg mb f k vs P)
    {dp un : Nat} {gd : Option (List Code)} {cn : Str} {cs : Scope} {a : Addr} {ccd : Value} {cl : List (Str × Addr)} {outer : List Env} {A₀ : Around} {base h₀ : Heap} {L : Addr} {m : Str → Option Value} {news : Led} {s : Shared} {Q E : Value → Shared → Prop}
    (B : Below A₀ base outer h₀) (F : Fr h₀ L s.heap m) (X : (Mine.hd.heap_39 w.params).In h₀) (N : News h₀ L s.heap news)
    (T : Top Mine.hd.view_39 (looseW Mine.hd.view_39 [Str.ofString "from_jd_gregorian", Str.ofString "from_jd_persian"]) mean mg mb h₀) (hk : cs.kind = .function) (hd : dp + k < recursionLimit) (hu : un + 8 * k < cLine)
    (ret : ∀ (D : Addr) (x1 x2 : Int) (t1 t2 : Tok) (c : Nat) (h' : Heap) (tk' : Nat), P x1 x2 → Fr h₀ L h' m → News h₀ L h' ((D, ({ cls := .type "tuple", data := .seq #[.int x1 t1, .int x2 t2] c } : Obj)) :: news) → AllLt D news → Q (.ref D) { s with heap := h', toks := tk' }) :
    wpAny (model PySem.Challenge.rw_aq6010_01.row.prog w) (ktrTop dp un gd cn cs L a ccd cl outer) (call (.ref f) vs) Q E s := C dp un gd cn cs a ccd cl outer A₀ base h₀ L m news s Q E B F X N T hk hd hu ret

local macro_rules | `(tactic| walk_at "exec While Compare cons nil") => `(tactic| (k_here; k_dflt (refine whl_start 100 ?_)))
local macro_rules | `(tactic| walk_at "exec While UnaryOp") => `(tactic| (k_here; k_dflt (refine whl_start 100 ?_)))
local macro_rules | `(tactic| walk_at "exec While") => `(tactic| (k_here; k_dflt (refine whl_start 100 ?_)))
local macro_rules | `(tactic| walk_at "WhlIf") => `(tactic| first
  | (refine WhlIf.no (by with_reducible rfl) ?_)
  | (refine WhlIf.yes (by with_reducible rfl) ?_)
  | (with_reducible refine WhlIf.no (decide_eq_false ?wf) ?_; (case wf => omega))
  | (with_reducible refine WhlIf.yes (decide_eq_true ?wf) ?_; (case wf => omega))
  | (with_reducible refine whl_not_yes ?wf ?_; (case wf => omega))
  | (with_reducible refine whl_not_no ?wf ?_; (case wf => omega))
  | (with_reducible refine whlIf_dec ?_ ?_ <;> intro _))
local macro_rules | `(tactic| walk_at "exec While BoolOp") => `(tactic| (k_here; k_dflt (refine whl_start 100 ?_)))
section
variable {w : World} {mean : ExcName → Option Value} {mg mb : Str → Option Value}
set_option maxRecDepth 100000 in
set_option maxHeartbeats 8000000 in
theorem due_tells (c : Int) (t : Tok) : TellP2 w mean mg mb 141 3 [.int c t] (fun m d => m = mon c ∧ d = dom c) := by
  unfold TellP2
  k_fill
  intro dp un gd cn cs a ccd cl outer A₀ base h₀ L m news s Q E B F X N T hk hd hu hret
  refine wpAny_call ?_
  k_dflt cell_enter
  k_steps
  all_goals first | (focus (
    refine' hret _ _ _ _ _ _ _ _ ?he ?hF ?hN ?hL
    (case hF => k_asm)
    (case hN => first | k_asm | (refine cb_drop (by assumption) ?_; kcj_all))
    (case hL => ktn_lt)
    (case he => (show _ = mon c ∧ _ = dom c; unfold mon dom; omega)))) | w_report

end
end Mine

namespace Mine
local macro_rules | `(tactic| k_room) => `(tactic| ktr_room)
/-- a new triple of ints -/
def TellP3 (w : World) (mean : ExcName → Option Value) (mg mb : Str → Option Value) (f : Addr) (k : Nat) (vs : List Value) (P : Int → Int → Int → Prop) : Prop :=
  ∀ (dp un : Nat) (gd : Option (List Code)) (cn : Str) (cs : Scope) (a : Addr) (ccd : Value) (cl : List (Str × Addr)) (outer : List Env) (A₀ : Around) (base h₀ : Heap) (L : Addr) (m : Str → Option Value) (news : Led) (s : Shared) (Q E : Value → Shared → Prop),
    Below A₀ base outer h₀ → Fr h₀ L s.heap m → (Mine.hd.heap_39 w.params).In h₀ → News h₀ L s.heap news →
    Top Mine.hd.view_39 (looseW Mine.hd.view_39 [Str.ofString "from_jd_gregorian", Str.ofString "from_jd_persian"]) mean mg mb h₀ → cs.kind = .function → dp + k < recursionLimit → un + 8 * k < cLine →
    (∀ (D : Addr) (x1 x2 x3 : Int) (t1 t2 t3 : Tok) (c : Nat) (h' : Heap) (tk' : Nat), P x1 x2 x3 → Fr h₀ L h' m → News h₀ L h' ((D, ({ cls := .type "tuple", data := .seq #[.int x1 t1, .int x2 t2, .int x3 t3] c } : Obj)) :: news) → AllLt D news → Q (.ref D) { s with heap := h', toks := tk' }) →
    wpAny (model PySem.Challenge.rw_aq6010_01.row.prog w) (ktrTop dp un gd cn cs L a ccd cl outer) (call (.ref f) vs) Q E s

theorem tellP3_use {w : World} {mean : ExcName → Option Value} {mg mb : Str → Option Value} {f : Addr} {k : Nat} {vs : List Value} {P : Int → Int → Int → Prop} (C : TellP3 w mean mg mb f k vs P)
    {dp un : Nat} {gd : Option (List Code)} {cn : Str} {cs : Scope} {a : Addr} {ccd : Value} {cl : List (Str × Addr)} {outer : List Env} {A₀ : Around} {base h₀ : Heap} {L : Addr} {m : Str → Option Value} {news : Led} {s : Shared} {Q E : Value → Shared → Prop}
    (B : Below A₀ base outer h₀) (F : Fr h₀ L s.heap m) (X : (Mine.hd.heap_39 w.params).In h₀) (N : News h₀ L s.heap news)
    (T : Top Mine.hd.view_39 (looseW Mine.hd.view_39 [Str.ofString "from_jd_gregorian", Str.ofString "from_jd_persian"]) mean mg mb h₀) (hk : cs.kind = .function) (hd : dp + k < recursionLimit) (hu : un + 8 * k < cLine)
    (ret : ∀ (D : Addr) (x1 x2 x3 : Int) (t1 t2 t3 : Tok) (c : Nat) (h' : Heap) (tk' : Nat), P x1 x2 x3 → Fr h₀ L h' m → News h₀ L h' ((D, ({ cls := .type "tuple", data := .seq #[.int x1 t1, .int x2 t2, .int x3 t3] c } : Obj)) :: news) → AllLt D news → Q (.ref D) { s with heap := h', toks := tk' }) :
    wpAny (model PySem.Challenge.rw_aq6010_01.row.prog w) (ktrTop dp un gd cn cs L a ccd cl outer) (call (.ref f) vs) Q E s := C dp un gd cn cs a ccd cl outer A₀ base h₀ L m news s Q E B F X N T hk hd hu ret

local macro_rules | `(tactic| walk_at "call ref") => `(tactic| (k_here; k_dflt (refine' tell_use (eve_spring_tells _ _) ?k1 ?k2 ?k3 ?k4 ?k5 ?kK ?kd ?ku ?_; (case k1 => k_asm); (case k2 => k_asm); (case k3 => k_asm); (case k4 => k_asm); (case k5 => k_asm); (case kK => first | exact rfl | assumption); (case kd => ktr_room); (case ku => ktr_units); k_whole); intro v9 h9 tk9 O9 F9 N9;  obtain ⟨u9, e9⟩ := O9; subst e9; (try dsimp only); (try k_fold)))

local macro_rules | `(tactic| walk_at "call ref") => `(tactic| (k_here; k_dflt (refine' tell_use (eve_march_tells _ _) ?k1 ?k2 ?k3 ?k4 ?k5 ?kK ?kd ?ku ?_; (case k1 => k_asm); (case k2 => k_asm); (case k3 => k_asm); (case k4 => k_asm); (case k5 => k_asm); (case kK => first | exact rfl | assumption); (case kd => ktr_room); (case ku => ktr_units); k_whole); intro v9 h9 tk9 O9 F9 N9;  obtain ⟨u9, e9⟩ := O9; subst e9; (try dsimp only); (try k_fold)))

local macro_rules | `(tactic| walk_at "call ref") => `(tactic| (k_here; k_dflt (refine' tell_use (eve_summer_tells _ _) ?k1 ?k2 ?k3 ?k4 ?k5 ?kK ?kd ?ku ?_; (case k1 => k_asm); (case k2 => k_asm); (case k3 => k_asm); (case k4 => k_asm); (case k5 => k_asm); (case kK => first | exact rfl | assumption); (case kd => ktr_room); (case ku => ktr_units); k_whole); intro v9 h9 tk9 O9 F9 N9;  obtain ⟨u9, e9⟩ := O9; subst e9; (try dsimp only); (try k_fold)))

section
variable {w : World} {mean : ExcName → Option Value} {mg mb : Str → Option Value}
set_option maxRecDepth 100000 in
set_option maxHeartbeats 8000000 in
theorem pyear_spring_tells (n : Int) (t : Tok) : TellP2 w mean mg mb 57 14 [.int n t, .ref 92] (fun _ e => e = opening 0 n - 1) := by
  unfold TellP2
  k_fill
  intro dp un gd cn cs a ccd cl outer A₀ base h₀ L m news s Q E B F X N T hk hd hu hret
  refine wpAny_call ?_
  k_dflt cell_enter
  k_steps
  all_goals first | (focus (
    refine' hret _ _ _ _ _ _ _ _ ?he ?hF ?hN ?hL
    (case hF => k_asm)
    (case hN => first | k_asm | (refine cb_drop (by assumption) ?_; kcj_all))
    (case hL => ktn_lt)
    (case he => exact rfl))) | w_report

set_option maxRecDepth 100000 in
set_option maxHeartbeats 8000000 in
theorem pdate_spring_tells (n : Int) (t : Tok) : TellP3 w mean mg mb 64 14 [.int n t, .ref 92] (fun _ m d => m = mon (n - opening 0 n) ∧ d = dom (n - opening 0 n)) := by
  unfold TellP3
  k_fill
  intro dp un gd cn cs a ccd cl outer A₀ base h₀ L m news s Q E B F X N T hk hd hu hret
  refine wpAny_call ?_
  k_dflt cell_enter
  k_steps
  all_goals first | (focus (
    refine' hret _ _ _ _ _ _ _ _ _ _ ?he ?hF ?hN ?hL
    (case hF => k_asm)
    (case hN => first | k_asm | (refine cb_drop (by assumption) ?_; kcj_all))
    (case hL => ktn_lt)
    (case he => first | (with_reducible exact told_low 0 n (by with_reducible assumption)) | (with_reducible exact told_high 0 n (by with_reducible assumption))))) | w_report

set_option maxRecDepth 100000 in
set_option maxHeartbeats 8000000 in
theorem pyear_march_tells (n : Int) (t : Tok) : TellP2 w mean mg mb 57 14 [.int n t, .ref 99] (fun _ e => e = opening 1 n - 1) := by
  unfold TellP2
  k_fill
  intro dp un gd cn cs a ccd cl outer A₀ base h₀ L m news s Q E B F X N T hk hd hu hret
  refine wpAny_call ?_
  k_dflt cell_enter
  k_steps
  all_goals first | (focus (
    refine' hret _ _ _ _ _ _ _ _ ?he ?hF ?hN ?hL
    (case hF => k_asm)
    (case hN => first | k_asm | (refine cb_drop (by assumption) ?_; kcj_all))
    (case hL => ktn_lt)
    (case he => exact rfl))) | w_report

set_option maxRecDepth 100000 in
set_option maxHeartbeats 8000000 in
theorem pdate_march_tells (n : Int) (t : Tok) : TellP3 w mean mg mb 64 14 [.int n t, .ref 99] (fun _ m d => m = mon (n - opening 1 n) ∧ d = dom (n - opening 1 n)) := by
  unfold TellP3
  k_fill
  intro dp un gd cn cs a ccd cl outer A₀ base h₀ L m news s Q E B F X N T hk hd hu hret
  refine wpAny_call ?_
  k_dflt cell_enter
  k_steps
  all_goals first | (focus (
    refine' hret _ _ _ _ _ _ _ _ _ _ ?he ?hF ?hN ?hL
    (case hF => k_asm)
    (case hN => first | k_asm | (refine cb_drop (by assumption) ?_; kcj_all))
    (case hL => ktn_lt)
    (case he => first | (with_reducible exact told_low 1 n (by with_reducible assumption)) | (with_reducible exact told_high 1 n (by with_reducible assumption))))) | w_report

set_option maxRecDepth 100000 in
set_option maxHeartbeats 8000000 in
theorem pyear_summer_tells (n : Int) (t : Tok) : TellP2 w mean mg mb 57 14 [.int n t, .ref 106] (fun _ e => e = opening 2 n - 1) := by
  unfold TellP2
  k_fill
  intro dp un gd cn cs a ccd cl outer A₀ base h₀ L m news s Q E B F X N T hk hd hu hret
  refine wpAny_call ?_
  k_dflt cell_enter
  k_steps
  all_goals first | (focus (
    refine' hret _ _ _ _ _ _ _ _ ?he ?hF ?hN ?hL
    (case hF => k_asm)
    (case hN => first | k_asm | (refine cb_drop (by assumption) ?_; kcj_all))
    (case hL => ktn_lt)
    (case he => exact rfl))) | w_report

set_option maxRecDepth 100000 in
set_option maxHeartbeats 8000000 in
theorem pdate_summer_tells (n : Int) (t : Tok) : TellP3 w mean mg mb 64 14 [.int n t, .ref 106] (fun _ m d => m = mon (n - opening 2 n) ∧ d = dom (n - opening 2 n)) := by
  unfold TellP3
  k_fill
  intro dp un gd cn cs a ccd cl outer A₀ base h₀ L m news s Q E B F X N T hk hd hu hret
  refine wpAny_call ?_
  k_dflt cell_enter
  k_steps
  all_goals first | (focus (
    refine' hret _ _ _ _ _ _ _ _ _ _ ?he ?hF ?hN ?hL
    (case hF => k_asm)
    (case hN => first | k_asm | (refine cb_drop (by assumption) ?_; kcj_all))
    (case hL => ktn_lt)
    (case he => first | (with_reducible exact told_low 2 n (by with_reducible assumption)) | (with_reducible exact told_high 2 n (by with_reducible assumption))))) | w_report

end
end Mine

namespace Mine
local macro_rules | `(tactic| k_room) => `(tactic| ktr_room)
/-- a new pair of an int and a new triple of ints -/
def TellPair (w : World) (mean : ExcName → Option Value) (mg mb : Str → Option Value) (f : Addr) (k : Nat) (vs : List Value) (P : Int → Int → Int → Int → Prop) : Prop :=
  ∀ (dp un : Nat) (gd : Option (List Code)) (cn : Str) (cs : Scope) (a : Addr) (ccd : Value) (cl : List (Str × Addr)) (outer : List Env) (A₀ : Around) (base h₀ : Heap) (L : Addr) (m : Str → Option Value) (news : Led) (s : Shared) (Q E : Value → Shared → Prop),
    Below A₀ base outer h₀ → Fr h₀ L s.heap m → (Mine.hd.heap_39 w.params).In h₀ → News h₀ L s.heap news →
    Top Mine.hd.view_39 (looseW Mine.hd.view_39 [Str.ofString "from_jd_gregorian", Str.ofString "from_jd_persian"]) mean mg mb h₀ → cs.kind = .function → dp + k < recursionLimit → un + 8 * k < cLine →
    (∀ (D D' : Addr) (x1 x2 x3 x4 : Int) (t1 t2 t3 t4 : Tok) (c c' : Nat) (h' : Heap) (tk' : Nat), P x1 x2 x3 x4 → Fr h₀ L h' m → News h₀ L h' ((D, ({ cls := .type "tuple", data := .seq #[.int x1 t1, .ref D'] c } : Obj)) :: (D', ({ cls := .type "tuple", data := .seq #[.int x2 t2, .int x3 t3, .int x4 t4] c' } : Obj)) :: news) → AllLt D' news → D' < D → Q (.ref D) { s with heap := h', toks := tk' }) →
    wpAny (model PySem.Challenge.rw_aq6010_01.row.prog w) (ktrTop dp un gd cn cs L a ccd cl outer) (call (.ref f) vs) Q E s

theorem tellPair_use {w : World} {mean : ExcName → Option Value} {mg mb : Str → Option Value} {f : Addr} {k : Nat} {vs : List Value} {P : Int → Int → Int → Int → Prop} (C : TellPair w mean mg mb f k vs P)
    {dp un : Nat} {gd : Option (List Code)} {cn : Str} {cs : Scope} {a : Addr} {ccd : Value} {cl : List (Str × Addr)} {outer : List Env} {A₀ : Around} {base h₀ : Heap} {L : Addr} {m : Str → Option Value} {news : Led} {s : Shared} {Q E : Value → Shared → Prop}
    (B : Below A₀ base outer h₀) (F : Fr h₀ L s.heap m) (X : (Mine.hd.heap_39 w.params).In h₀) (N : News h₀ L s.heap news)
    (T : Top Mine.hd.view_39 (looseW Mine.hd.view_39 [Str.ofString "from_jd_gregorian", Str.ofString "from_jd_persian"]) mean mg mb h₀) (hk : cs.kind = .function) (hd : dp + k < recursionLimit) (hu : un + 8 * k < cLine)
    (ret : ∀ (D D' : Addr) (x1 x2 x3 x4 : Int) (t1 t2 t3 t4 : Tok) (c c' : Nat) (h' : Heap) (tk' : Nat), P x1 x2 x3 x4 → Fr h₀ L h' m → News h₀ L h' ((D, ({ cls := .type "tuple", data := .seq #[.int x1 t1, .ref D'] c } : Obj)) :: (D', ({ cls := .type "tuple", data := .seq #[.int x2 t2, .int x3 t3, .int x4 t4] c' } : Obj)) :: news) → AllLt D' news → D' < D → Q (.ref D) { s with heap := h', toks := tk' }) :
    wpAny (model PySem.Challenge.rw_aq6010_01.row.prog w) (ktrTop dp un gd cn cs L a ccd cl outer) (call (.ref f) vs) Q E s := C dp un gd cn cs a ccd cl outer A₀ base h₀ L m news s Q E B F X N T hk hd hu ret

theorem sub_two {α : Type} {a b c : α} {l : List α} : ∀ p ∈ a :: b :: l, p ∈ a :: b :: c :: l := by
  intro p hp
  simp only [List.mem_cons] at hp ⊢
  rcases hp with h | h | h
  · exact .inl h
  · exact .inr (.inl h)
  · exact .inr (.inr (.inr h))
theorem allLt_tail {d : Addr} {q : Addr × Obj} {l : List (Addr × Obj)} (h : AllLt d (q :: l)) : AllLt d l := h.2
local macro_rules | `(tactic| walk_at "call ref") => `(tactic| (k_here; k_dflt (refine' tellP2_use (pyear_spring_tells _ _) ?k1 ?k2 ?k3 ?k4 ?k5 ?kK ?kd ?ku ?_; (case k1 => k_asm); (case k2 => k_asm); (case k3 => k_asm); (case k4 => k_asm); (case k5 => k_asm); (case kK => first | exact rfl | assumption); (case kd => ktr_room); (case ku => ktr_units); k_whole); intro D9 x9 y9 t9 t8 c9 h9 tk9 P9 F9 N9 L9; subst P9; (try k_sweep); (try dsimp only); (try k_fold)))

local macro_rules | `(tactic| walk_at "call ref") => `(tactic| (k_here; k_dflt (refine' tellP3_use (pdate_spring_tells _ _) ?k1 ?k2 ?k3 ?k4 ?k5 ?kK ?kd ?ku ?_; (case k1 => k_asm); (case k2 => k_asm); (case k3 => k_asm); (case k4 => k_asm); (case k5 => k_asm); (case kK => first | exact rfl | assumption); (case kd => ktr_room); (case ku => ktr_units); k_whole); intro D9 x9 y9 z9 t9 t8 t7 c9 h9 tk9 P9 F9 N9 L9; obtain ⟨e8, e9⟩ := P9; subst e8; subst e9; (try k_sweep); (try dsimp only); (try k_fold)))

local macro_rules | `(tactic| walk_at "call ref") => `(tactic| (k_here; k_dflt (refine' tellP2_use (pyear_march_tells _ _) ?k1 ?k2 ?k3 ?k4 ?k5 ?kK ?kd ?ku ?_; (case k1 => k_asm); (case k2 => k_asm); (case k3 => k_asm); (case k4 => k_asm); (case k5 => k_asm); (case kK => first | exact rfl | assumption); (case kd => ktr_room); (case ku => ktr_units); k_whole); intro D9 x9 y9 t9 t8 c9 h9 tk9 P9 F9 N9 L9; subst P9; (try k_sweep); (try dsimp only); (try k_fold)))

local macro_rules | `(tactic| walk_at "call ref") => `(tactic| (k_here; k_dflt (refine' tellP3_use (pdate_march_tells _ _) ?k1 ?k2 ?k3 ?k4 ?k5 ?kK ?kd ?ku ?_; (case k1 => k_asm); (case k2 => k_asm); (case k3 => k_asm); (case k4 => k_asm); (case k5 => k_asm); (case kK => first | exact rfl | assumption); (case kd => ktr_room); (case ku => ktr_units); k_whole); intro D9 x9 y9 z9 t9 t8 t7 c9 h9 tk9 P9 F9 N9 L9; obtain ⟨e8, e9⟩ := P9; subst e8; subst e9; (try k_sweep); (try dsimp only); (try k_fold)))

local macro_rules | `(tactic| walk_at "call ref") => `(tactic| (k_here; k_dflt (refine' tellP2_use (pyear_summer_tells _ _) ?k1 ?k2 ?k3 ?k4 ?k5 ?kK ?kd ?ku ?_; (case k1 => k_asm); (case k2 => k_asm); (case k3 => k_asm); (case k4 => k_asm); (case k5 => k_asm); (case kK => first | exact rfl | assumption); (case kd => ktr_room); (case ku => ktr_units); k_whole); intro D9 x9 y9 t9 t8 c9 h9 tk9 P9 F9 N9 L9; subst P9; (try k_sweep); (try dsimp only); (try k_fold)))

local macro_rules | `(tactic| walk_at "call ref") => `(tactic| (k_here; k_dflt (refine' tellP3_use (pdate_summer_tells _ _) ?k1 ?k2 ?k3 ?k4 ?k5 ?kK ?kd ?ku ?_; (case k1 => k_asm); (case k2 => k_asm); (case k3 => k_asm); (case k4 => k_asm); (case k5 => k_asm); (case kK => first | exact rfl | assumption); (case kd => ktr_room); (case ku => ktr_units); k_whole); intro D9 x9 y9 z9 t9 t8 t7 c9 h9 tk9 P9 F9 N9 L9; obtain ⟨e8, e9⟩ := P9; subst e8; subst e9; (try k_sweep); (try dsimp only); (try k_fold)))

section
variable {w : World} {mean : ExcName → Option Value} {mg mb : Str → Option Value}
set_option maxRecDepth 100000 in
set_option maxHeartbeats 8000000 in
theorem pair_tells (a n : Int) (t t' : Tok) : TellPair w mean mg mb 134 16 [.int a t, .int n t'] (fun e _ m d => e = opening a n - 1 ∧ m = mon (n - opening a n) ∧ d = dom (n - opening a n)) := by
  unfold TellPair
  k_fill
  intro dp un gd cn cs a ccd cl outer A₀ base h₀ L m news s Q E B F X N T hk hd hu hret
  refine wpAny_call ?_
  k_dflt cell_enter
  k_steps
  all_goals (focus (
    refine' hret _ _ _ _ _ _ _ _ _ _ _ _ _ _ ?he ?hF ?hN ?hL ?hM
    (case hF => k_asm)
    (case hN => refine cb_drop (by assumption) sub_two)
    (case hL => exact allLt_tail (by assumption))
    (case hM => exact And.left (by assumption))
    (case he => first | (subst_vars; exact ⟨rfl, rfl, rfl⟩) | (have e2 := opening_two (by with_reducible assumption) (by with_reducible assumption) n; rw [e2]; exact ⟨rfl, rfl, rfl⟩))))

end
end Mine

namespace Mine
theorem slice_tup3 {prog : Program} {w : World} {A : Around} {E : Value → Shared → Prop} {s : Shared} {h₀ : Heap} {L b : Addr} {m : Str → Option Value} {news : List (Addr × Obj)} {value slice : PySem.Expr} {x y z : Value} {c : Nat} {u : Tok} {Q : Value → Shared → Prop}
    (F : Fr h₀ L s.heap m) (N : News h₀ L s.heap news) (hb : (b, ({ cls := .type "tuple", data := .seq #[x, y, z] c } : Obj)) ∈ news)
    (h : ∀ D h', Fr h₀ L h' m → News h₀ L h' ((D, ({ cls := .type "tuple", data := .seq #[y, z] } : Obj)) :: news) → (∀ p ∈ news, p.1 < D) → Q (.ref D) { s with heap := h' })
    (hs : subscripted slice false (.ref b) (.ref s.heap.objs.size) = operate [.ref s.heap.objs.size, .ref b] (getItem (.ref b) (.ref s.heap.objs.size)))
    (hg : ∀ r, letTemporaryGo value (.ref b) r = pure ()) :
    wpAny (model prog w) A (subscriptTail value slice (.ref b) (.ref s.heap.objs.size)) Q E { s with heap := s.heap.push { cls := .type "slice", data := .fields #[.int 1 u, .none, .none] } } :=
  slice_tuple_from (a := 1) (items := #[x, y, z]) F N (News.isTup N hb) (by decide) (by show 1 ≤ 3; decide) (fun h' F' N' => h _ h' F' N' fun p hp => Nat.lt_succ_of_lt (Heap.lt_size (N p hp).1)) hs hg (by show 3 ≤ sizeLine; rw [sizeLine_eq]; decide)
end Mine
open Mine
local macro_rules | `(tactic| walk_at "subscriptTail Name Slice ref ref") => `(tactic| (k_here; k_dflt (refine' slice_tup3 ?F ?N ?b ?_ ?s ?t; (case F => k_asm); (case N => k_asm); (case b => k_mem); (case s => with_unfolding_all rfl); (case t => (intro _; with_unfolding_all rfl)); k_whole); intro D' h' F' N' l1; (try k_lt l1); (try k_sweep)))
local macro_rules | `(tactic| walk_at "binaryOp FloorDiv int int") => `(tactic| ((with_reducible show wpAny _ _ (binaryOp Operator.FloorDiv (Value.int 1 _) (Value.int (_ - _) _)) _ _ _); refine floordiv_int_or rfl (fun _ _ _ _ _ => ?_) (fun h9 => absurd (Int.sub_self _) h9) (fun h9 => absurd (Int.sub_self _) h9)))
local macro_rules | `(tactic| walk_at "call ref") => `(tactic| (k_here; k_dflt (refine' tell3_use (greg_tells _ _) ?k1 ?k2 ?k3 ?k4 ?k5 ?kK ?kd ?ku ?_; (case k1 => k_asm); (case k2 => k_asm); (case k3 => k_asm); (case k4 => k_asm); (case k5 => k_asm); (case kK => first | exact rfl | assumption); (case kd => ktr_room); (case ku => ktr_units); k_whole); intro D9 y9 x9 z9 t9 t8 t7 c9 h9 tk9 e9 F9 N9 L9; subst e9; (try k_sweep); (try dsimp only); (try k_fold)))
local macro_rules | `(tactic| walk_at "call ref") => `(tactic| (k_here; k_dflt (refine' tell_use (open_tells _ _ _ _) ?k1 ?k2 ?k3 ?k4 ?k5 ?kK ?kd ?ku ?_; (case k1 => k_asm); (case k2 => k_asm); (case k3 => k_asm); (case k4 => k_asm); (case k5 => k_asm); (case kK => first | exact rfl | assumption); (case kd => ktr_room); (case ku => ktr_units); k_whole); intro v9 h9 tk9 O9 F9 N9;  obtain ⟨u9, e9⟩ := O9; subst e9; (try dsimp only); (try k_fold)))

local macro_rules | `(tactic| walk_at "call ref") => `(tactic| (k_here; k_dflt (refine' tell_use (eve_tells _ _ _ _) ?k1 ?k2 ?k3 ?k4 ?k5 ?kK ?kd ?ku ?_; (case k1 => k_asm); (case k2 => k_asm); (case k3 => k_asm); (case k4 => k_asm); (case k5 => k_asm); (case kK => first | exact rfl | assumption); (case kd => ktr_room); (case ku => ktr_units); k_whole); intro v9 h9 tk9 O9 F9 N9;  obtain ⟨u9, e9⟩ := O9; subst e9; (try dsimp only); (try k_fold)))

local macro_rules | `(tactic| walk_at "call ref") => `(tactic| (k_here; k_dflt (refine' tellPair_use (pair_tells _ _ _ _) ?k1 ?k2 ?k3 ?k4 ?k5 ?kK ?kd ?ku ?_; (case k1 => k_asm); (case k2 => k_asm); (case k3 => k_asm); (case k4 => k_asm); (case k5 => k_asm); (case kK => first | exact rfl | assumption); (case kd => ktr_room); (case ku => ktr_units); k_whole); intro D9 E9 x9 y9 z9 r9 t9 t8 t7 t6 c9 c8 h9 tk9 P9 F9 N9 L9 M9; obtain ⟨e7, e8, e9⟩ := P9; subst e7; subst e8; subst e9; (try k_sweep); (try dsimp only); (try k_fold)))

local macro_rules | `(tactic| walk_at "call ref") => `(tactic| (k_here; k_dflt (refine' tellP2_use (due_tells _ _) ?k1 ?k2 ?k3 ?k4 ?k5 ?kK ?kd ?ku ?_; (case k1 => k_asm); (case k2 => k_asm); (case k3 => k_asm); (case k4 => k_asm); (case k5 => k_asm); (case kK => first | exact rfl | assumption); (case kd => ktr_room); (case ku => ktr_units); k_whole); intro D9 x9 y9 t9 t8 c9 h9 tk9 P9 F9 N9 L9; obtain ⟨e8, e9⟩ := P9; subst e8; subst e9; (try k_sweep); (try dsimp only); (try k_fold)))

set_option maxRecDepth 100000 in
set_option maxHeartbeats 8000000 in
theorem PySem.Challenge.cw_aq6010_01_holds : PySem.Challenge.rw_aq6010_01.Holds := by
  refine Mine.hd ?_
  w_on
  w_strict k_go
