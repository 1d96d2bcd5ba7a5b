import PyProof.Rows.All
import Wide.All
import OpenK.AllK
import Wide.FinOn
import Lean
import PySem.Challenge.RW_aq6013_01
open PySem PySem.W PyProof.Rows
set_option Elab.async false
set_option maxRecDepth 100000
set_option linter.unusedSimpArgs false
set_option linter.unusedVariables false
set_option maxHeartbeats 8000000 in
open_top Mine.hd for PySem.Challenge.rw_aq6013_01
namespace Mine
noncomputable abbrev PV : PySem.Program := hd.view_39
noncomputable abbrev LO : List PySem.Str := looseW hd.view_39
      [Str.ofString "legal_date_gregorian", Str.ofString "to_jd_gregorian", Str.ofString "leap_julian",
        Str.ofString "month_length_julian", Str.ofString "legal_date_julian", Str.ofString "to_jd_julian",
        Str.ofString "easter", Str.ofString "_easter_julian", Str.ofString "leap_hebrew",
        Str.ofString "month_length_hebrew", Str.ofString "to_jd_hebrew"]
/-- a call of the def at f with the arguments vs, where pre holds and there is room, gives R back and leaves the ledger as it was -/
def Claim (D U : Nat) (f : Addr) (pre : Prop) (vs : List Value) (R : Tok → Value) : Prop :=
  ∀ (w : World) (mean : ExcName → Option Value) (mg mb : PySem.Str → Option Value) (dp un : Nat) (gd : Option (List Code)) (cn : PySem.Str) (cs : Scope) (a : Addr) (ccd : Value) (cl : List (PySem.Str × Addr)) (outer : List Env) (A₀ : Around) (base h₀ : Heap) (L : Addr)
    (m : PySem.Str → Option Value) (news : List (Addr × Obj)) (s : Shared) (Q E : Value → Shared → Prop),
    Below A₀ base outer h₀ → Fr h₀ L s.heap m → (hd.heap_39 w.params).In h₀ → News h₀ L s.heap news → Top PV LO mean mg mb h₀ → cs.kind = .function → pre → dp + D < recursionLimit → un + U < cLine →
    (∀ (t : Tok) (h' : Heap) (tk' : Nat), Fr h₀ L h' m → News h₀ L h' news → Q (R t) { s with heap := h', toks := tk' }) →
    wpAny (model PySem.Challenge.rw_aq6013_01.row.prog w) (ktrTop dp un gd cn cs L a ccd cl outer) (call (.ref f) vs) Q E s
theorem Claim.use {D U : Nat} {f : Addr} {pre : Prop} {vs : List Value} {R : Tok → Value} (C : Claim D U f pre vs R)
    {w : World} {mean : ExcName → Option Value} {mg mb : PySem.Str → Option Value} {dp un : Nat} {gd : Option (List Code)} {cn : PySem.Str} {cs : Scope} {a : Addr} {ccd : Value} {cl : List (PySem.Str × Addr)} {outer : List Env} {A₀ : Around} {base h₀ : Heap} {L : Addr}
    {m : PySem.Str → Option Value} {news : List (Addr × Obj)} {s : Shared} {Q E : Value → Shared → Prop}
    (B : Below A₀ base outer h₀) (F : Fr h₀ L s.heap m) (X : (hd.heap_39 w.params).In h₀) (N : News h₀ L s.heap news) (T : Top PV LO mean mg mb h₀) (hk : cs.kind = .function) (hp : pre) (hd : dp + D < recursionLimit) (hu : un + U < cLine)
    (ret : ∀ (t : Tok) (h' : Heap) (tk' : Nat), Fr h₀ L h' m → News h₀ L h' news → Q (R t) { s with heap := h', toks := tk' }) :
    wpAny (model PySem.Challenge.rw_aq6013_01.row.prog w) (ktrTop dp un gd cn cs L a ccd cl outer) (call (.ref f) vs) Q E s :=
  C _ _ _ _ _ _ _ _ _ _ _ _ _ _ _ _ _ _ _ _ _ _ B F X N T hk hp hd hu ret

/-- the same, the ledger forgotten -/
def Claim0 (D U : Nat) (f : Addr) (pre : Prop) (vs : List Value) (R : Tok → Value) : Prop :=
  ∀ (w : World) (mean : ExcName → Option Value) (mg mb : PySem.Str → Option Value) (dp un : Nat) (gd : Option (List Code)) (cn : PySem.Str) (cs : Scope) (a : Addr) (ccd : Value) (cl : List (PySem.Str × Addr)) (outer : List Env) (A₀ : Around) (base h₀ : Heap) (L : Addr)
    (m : PySem.Str → Option Value) (s : Shared) (Q E : Value → Shared → Prop),
    Below A₀ base outer h₀ → Fr h₀ L s.heap m → (hd.heap_39 w.params).In h₀ → News h₀ L s.heap [] → Top PV LO mean mg mb h₀ → cs.kind = .function → pre → dp + D < recursionLimit → un + U < cLine →
    (∀ (t : Tok) (h' : Heap) (tk' : Nat), Fr h₀ L h' m → News h₀ L h' [] → Q (R t) { s with heap := h', toks := tk' }) →
    wpAny (model PySem.Challenge.rw_aq6013_01.row.prog w) (ktrTop dp un gd cn cs L a ccd cl outer) (call (.ref f) vs) Q E s
theorem Claim0.use {D U : Nat} {f : Addr} {pre : Prop} {vs : List Value} {R : Tok → Value} (C : Claim0 D U f pre vs R)
    {w : World} {mean : ExcName → Option Value} {mg mb : PySem.Str → Option Value} {dp un : Nat} {gd : Option (List Code)} {cn : PySem.Str} {cs : Scope} {a : Addr} {ccd : Value} {cl : List (PySem.Str × Addr)} {outer : List Env} {A₀ : Around} {base h₀ : Heap} {L : Addr}
    {m : PySem.Str → Option Value} {s : Shared} {Q E : Value → Shared → Prop}
    (B : Below A₀ base outer h₀) (F : Fr h₀ L s.heap m) (X : (hd.heap_39 w.params).In h₀) (T : Top PV LO mean mg mb h₀) (hk : cs.kind = .function) (hp : pre) (hd : dp + D < recursionLimit) (hu : un + U < cLine)
    (ret : ∀ (t : Tok) (h' : Heap) (tk' : Nat), Fr h₀ L h' m → News h₀ L h' [] → Q (R t) { s with heap := h', toks := tk' }) :
    wpAny (model PySem.Challenge.rw_aq6013_01.row.prog w) (ktrTop dp un gd cn cs L a ccd cl outer) (call (.ref f) vs) Q E s :=
  C _ _ _ _ _ _ _ _ _ _ _ _ _ _ _ _ _ _ _ _ _ B F X News.nil T hk hp hd hu ret

/-- the same for a def that gives a tuple of three ints back -/
def ClaimT (D U : Nat) (f : Addr) (pre : Prop) (vs : List Value) (x y z : Int) : Prop :=
  ∀ (w : World) (mean : ExcName → Option Value) (mg mb : PySem.Str → Option Value) (dp un : Nat) (gd : Option (List Code)) (cn : PySem.Str) (cs : Scope) (a : Addr) (ccd : Value) (cl : List (PySem.Str × Addr)) (outer : List Env) (A₀ : Around) (base h₀ : Heap) (L : Addr)
    (m : PySem.Str → Option Value) (s : Shared) (Q E : Value → Shared → Prop),
    Below A₀ base outer h₀ → Fr h₀ L s.heap m → (hd.heap_39 w.params).In h₀ → News h₀ L s.heap [] → Top PV LO mean mg mb h₀ → cs.kind = .function → pre → dp + D < recursionLimit → un + U < cLine →
    (∀ (d : Addr) (t1 t2 t3 : Tok) (c : Nat) (h' : Heap) (tk' : Nat), Fr h₀ L h' m → News h₀ L h' [(d, ({ cls := .type "tuple", data := .seq #[.int x t1, .int y t2, .int z t3] c } : Obj))] → Q (.ref d) { s with heap := h', toks := tk' }) →
    wpAny (model PySem.Challenge.rw_aq6013_01.row.prog w) (ktrTop dp un gd cn cs L a ccd cl outer) (call (.ref f) vs) Q E s
theorem ClaimT.use {D U : Nat} {f : Addr} {pre : Prop} {vs : List Value} {x y z : Int} (C : ClaimT D U f pre vs x y z)
    {w : World} {mean : ExcName → Option Value} {mg mb : PySem.Str → Option Value} {dp un : Nat} {gd : Option (List Code)} {cn : PySem.Str} {cs : Scope} {a : Addr} {ccd : Value} {cl : List (PySem.Str × Addr)} {outer : List Env} {A₀ : Around} {base h₀ : Heap} {L : Addr}
    {m : PySem.Str → Option Value} {s : Shared} {Q E : Value → Shared → Prop}
    (B : Below A₀ base outer h₀) (F : Fr h₀ L s.heap m) (X : (hd.heap_39 w.params).In h₀) (T : Top PV LO mean mg mb h₀) (hk : cs.kind = .function) (hp : pre) (hd : dp + D < recursionLimit) (hu : un + U < cLine)
    (ret : ∀ (d : Addr) (t1 t2 t3 : Tok) (c : Nat) (h' : Heap) (tk' : Nat), Fr h₀ L h' m → News h₀ L h' [(d, ({ cls := .type "tuple", data := .seq #[.int x t1, .int y t2, .int z t3] c } : Obj))] → Q (.ref d) { s with heap := h', toks := tk' }) :
    wpAny (model PySem.Challenge.rw_aq6013_01.row.prog w) (ktrTop dp un gd cn cs L a ccd cl outer) (call (.ref f) vs) Q E s :=
  C _ _ _ _ _ _ _ _ _ _ _ _ _ _ _ _ _ _ _ _ _ B F X News.nil T hk hp hd hu ret

/-- the floor's quotient and its rest, as letters that nothing unfolds -/
@[irreducible] def fd (a b : Int) : Int := a.fdiv b
@[irreducible] def fm (a b : Int) : Int := a.fmod b
theorem fd_def (a b : Int) : fd a b = a.fdiv b := by unfold fd; rfl
theorem fm_def (a b : Int) : fm a b = a.fmod b := by unfold fm; rfl
theorem fd_rule {prog : Program} {w : World} {A : Around} {E : Value → Shared → Prop} {s : Shared} {a b : Int} {t u : Tok} {Q : Value → Shared → Prop}
    (h0 : 0 < b) (h1 : b < 1000000) (h : Q (.int (fd a b) s.toks) { s with toks := s.toks + 1 }) : wpAny (model prog w) A (binaryOp .FloorDiv (.int a t) (.int b u)) Q E s :=
  floordiv_int (by omega) (by rw [fd_def] at h; exact h) (Or.inl (PyProof.noPylong_small (by omega)))
theorem fm_rule {prog : Program} {w : World} {A : Around} {E : Value → Shared → Prop} {s : Shared} {a b : Int} {t u : Tok} {Q : Value → Shared → Prop}
    (h0 : 0 < b) (h : Q (.int (fm a b) s.toks) { s with toks := s.toks + 1 }) : wpAny (model prog w) A (binaryOp .Mod (.int a t) (.int b u)) Q E s :=
  mod_int' (by omega) (by rw [fm_def] at h; exact h)

/-- what trunc gives, for a divisor above nought -/
@[irreducible] def tr (a b : Int) : Int := if a < 0 then -((-a).fdiv b) else a.fdiv b
theorem tr_def (a b : Int) : tr a b = if a < 0 then -((-a).fdiv b) else a.fdiv b := by unfold tr; rfl
theorem abs_ne {b : Int} (h : 0 < b ∧ b < 1000) : (if b < 0 then -b else b) ≠ 0 := by split <;> omega
theorem abs_py {a b : Int} (h : 0 < b ∧ b < 1000) : Builtin.divisionGoesByPylong a (if b < 0 then -b else b) = false :=
  PyProof.noPylong_small (by split <;> omega)
theorem tr_a {a b : Int} (h : 0 < b ∧ b < 1000) (e : (decide (a < 0) == decide (b < 0)) = true) :
    (if a < 0 then -a else a).fdiv (if b < 0 then -b else b) = tr a b := by
  have hb : ¬ b < 0 := by omega
  have ha : ¬ a < 0 := by simpa [hb] using e
  simp [tr_def, ha, hb]
theorem tr_b {a b : Int} (h : 0 < b ∧ b < 1000) (e : (decide (a < 0) == decide (b < 0)) = false) :
    -(if a < 0 then -a else a).fdiv (if b < 0 then -b else b) = tr a b := by
  have hb : ¬ b < 0 := by omega
  have ha : a < 0 := by simpa [hb] using e
  simp [tr_def, ha, hb]

theorem in_topTup {prog : Program} {w : World} {A : Around} {E : Value → Shared → Prop} {s : Shared} {K : Frag} {L a : Addr} {h₀ : Heap} {m : PySem.Str → Option Value} {n : Nat}
    {l : List Value} {dd : Option Addr} {sl : Array (Option Value)} {ns : List Int} {x : Int} {u : Tok} {Q : Value → Shared → Prop}
    (F : Fr h₀ L s.heap m) (X₀ : K.In h₀) (hl : K.lookup a = some ⟨.type "tuple", dd, .seq l.toArray n, sl⟩) (hi : IntsAre l ns)
    (h : Q (.bool (ns.any (· == x))) s) : wpAny (model prog w) A (compareOp .In (.int x u) (.ref a)) Q E s :=
  in_tuple_ints (tupK (X₀.keeps F.keep) hl) (by simpa using hi) h

/-- isleap -/
@[irreducible] def isl (y : Int) : Bool := if fm y 4 = 0 then (if fm y 100 ≠ 0 then true else fm y 400 == 0) else false
theorem isl_def (y : Int) : isl y = if fm y 4 = 0 then (if fm y 100 ≠ 0 then true else fm y 400 == 0) else false := by unfold isl; rfl
theorem isl_a {y : Int} (h : fm y 4 ≠ 0) : (fm y 4 == 0) = isl y := by simp [isl_def, h]
theorem isl_b {y : Int} (h : fm y 4 = 0) (k : fm y 100 ≠ 0) : (fm y 100 != 0) = isl y := by simp [isl_def, h, k]
theorem isl_c {y : Int} (h : fm y 4 = 0) (k : fm y 100 = 0) : (fm y 400 == 0) = isl y := by simp [isl_def, h, k]
/-- the steps of _easter_western -/
abbrev wc (y : Int) : Int := tr y 100
abbrev wn (y : Int) : Int := y - 19 * tr y 19
abbrev wk (y : Int) : Int := tr (wc y - 17) 25
abbrev wi1 (y : Int) : Int := wc y - tr (wc y) 4 - tr (wc y - wk y) 3 + 19 * wn y + 15
abbrev wi2 (y : Int) : Int := wi1 y - 30 * tr (wi1 y) 30
abbrev wi3 (y : Int) : Int := wi2 y - tr (wi2 y) 28 * (1 - tr (wi2 y) 28 * tr 29 (wi2 y + 1) * tr (21 - wn y) 11)
abbrev wj1 (y : Int) : Int := y + tr y 4 + wi3 y + 2 - wc y + tr (wc y) 4
abbrev wj2 (y : Int) : Int := wj1 y - 7 * tr (wj1 y) 7
abbrev wl (y : Int) : Int := wi3 y - wj2 y
@[irreducible] def em (y : Int) : Int := 3 + tr (wl y + 40) 44
@[irreducible] def ed (y : Int) : Int := wl y + 28 - 31 * tr (3 + tr (wl y + 40) 44) 4
theorem em_def (y : Int) : em y = 3 + tr (wl y + 40) 44 := by unfold em; rfl
theorem ed_def (y : Int) : ed y = wl y + 28 - 31 * tr (3 + tr (wl y + 40) 44) 4 := by unfold ed; rfl
theorem tr_ediv {a b : Int} (ha : 0 ≤ a) (hb : 0 < b) : tr a b = a / b := by
  rw [tr_def, if_neg (by omega), Int.fdiv_eq_ediv_of_nonneg _ (by omega)]
theorem wi2_bnd {y : Int} (h : 1583 ≤ y) : 0 < wi2 y + 1 ∧ wi2 y + 1 < 1000 := by
  have hc : wc y = y / 100 := tr_ediv (by omega) (by omega)
  have hn : wn y = y - 19 * (y / 19) := by show y - 19 * tr y 19 = _; rw [tr_ediv (by omega) (by omega)]
  have hk : wk y ≤ wc y - 15 ∧ -1 ≤ wk y := by
    show tr (wc y - 17) 25 ≤ _ ∧ -1 ≤ tr (wc y - 17) 25
    by_cases h17 : 0 ≤ wc y - 17
    · rw [tr_ediv h17 (by omega)]; omega
    · rw [tr_def, if_pos (by omega), Int.fdiv_eq_ediv_of_nonneg _ (by omega)]; omega
  have h4 : tr (wc y) 4 = wc y / 4 := tr_ediv (by omega) (by omega)
  have h3 : tr (wc y - wk y) 3 = (wc y - wk y) / 3 := tr_ediv (by omega) (by omega)
  have h1 : 0 ≤ wi1 y := by
    show 0 ≤ wc y - tr (wc y) 4 - tr (wc y - wk y) 3 + 19 * wn y + 15
    rw [h4, h3]; omega
  have h2 : tr (wi1 y) 30 = wi1 y / 30 := tr_ediv h1 (by omega)
  show 0 < wi1 y - 30 * tr (wi1 y) 30 + 1 ∧ wi1 y - 30 * tr (wi1 y) 30 + 1 < 1000
  rw [h2]; omega
theorem wi2_28 {y : Int} (h : 1583 ≤ y) : Builtin.Int.intBits (tr (wi2 y) 28) ≤ 64 := by
  have h1 := wi2_bnd h
  have h2 : tr (wi2 y) 28 = wi2 y / 28 := tr_ediv (by omega) (by omega)
  rw [h2]
  exact PySem.intBits_le_64 (by omega) (by omega)
theorem wn_11 {y : Int} (h : 1583 ≤ y) : Builtin.Int.intBits (tr (21 - wn y) 11) ≤ 64 := by
  have hn : wn y = y - 19 * (y / 19) := by show y - 19 * tr y 19 = _; rw [tr_ediv (by omega) (by omega)]
  have h2 : tr (21 - wn y) 11 = (21 - wn y) / 11 := tr_ediv (by omega) (by omega)
  rw [h2]
  exact PySem.intBits_le_64 (by omega) (by omega)
theorem wi3_bnd {y : Int} (h : 1583 ≤ y) : 0 ≤ wi3 y ∧ wi3 y ≤ 28 := by
  have h1 := wi2_bnd h
  have h30 : wi2 y ≤ 29 := by
    by_cases h0 : 0 ≤ wi1 y
    · have h2 : tr (wi1 y) 30 = wi1 y / 30 := tr_ediv h0 (by omega)
      show wi1 y - 30 * tr (wi1 y) 30 ≤ 29
      rw [h2]; omega
    · have h1' : 0 < wi1 y - 30 * tr (wi1 y) 30 + 1 := h1.1
      rw [tr_def, if_pos (by omega), Int.fdiv_eq_ediv_of_nonneg _ (by omega)] at h1'
      show wi1 y - 30 * tr (wi1 y) 30 ≤ 29
      rw [tr_def, if_pos (by omega), Int.fdiv_eq_ediv_of_nonneg _ (by omega)]; omega
  show 0 ≤ wi2 y - tr (wi2 y) 28 * (1 - tr (wi2 y) 28 * tr 29 (wi2 y + 1) * tr (21 - wn y) 11) ∧ wi2 y - tr (wi2 y) 28 * (1 - tr (wi2 y) 28 * tr 29 (wi2 y + 1) * tr (21 - wn y) 11) ≤ 28
  have hn : wn y = y - 19 * (y / 19) := by show y - 19 * tr y 19 = _; rw [tr_ediv (by omega) (by omega)]
  have hv : tr (21 - wn y) 11 = (21 - wn y) / 11 := tr_ediv (by omega) (by omega)
  have ht : tr (wi2 y) 28 = wi2 y / 28 := tr_ediv (by omega) (by omega)
  have hu : tr 29 (wi2 y + 1) = 29 / (wi2 y + 1) := tr_ediv (by omega) (by omega)
  have hv0 : 0 ≤ (21 - wn y) / 11 := by omega
  have hv1 : (21 - wn y) / 11 ≤ 1 := by omega
  rw [hv, ht, hu]
  clear ht hu hv hn
  generalize (21 - wn y) / 11 = v at *
  generalize wi2 y = i at *
  by_cases c : i < 28
  · have : i / 28 = 0 := by omega
    rw [this]; omega
  · by_cases c2 : i = 28
    · subst c2; simp only [show (28 : Int) / 28 = 1 from rfl, show (29 : Int) / (28 + 1) = 1 from rfl]; omega
    · have : i = 29 := by omega
      subst this; simp only [show (29 : Int) / 28 = 1 from rfl, show (29 : Int) / (29 + 1) = 0 from rfl]; omega
theorem wl_bnd {y : Int} (h : 1583 ≤ y) : -6 ≤ wl y ∧ wl y ≤ 28 := by
  have h1 := wi3_bnd h
  have hc : wc y = y / 100 := tr_ediv (by omega) (by omega)
  have h4 : tr (wc y) 4 = wc y / 4 := tr_ediv (by omega) (by omega)
  have hy : tr y 4 = y / 4 := tr_ediv (by omega) (by omega)
  have hj : 0 ≤ wj1 y := by
    show 0 ≤ y + tr y 4 + wi3 y + 2 - wc y + tr (wc y) 4
    rw [h4, hy]; omega
  have h7 : tr (wj1 y) 7 = wj1 y / 7 := tr_ediv hj (by omega)
  have h2 : wj2 y = wj1 y - 7 * (wj1 y / 7) := by show wj1 y - 7 * tr (wj1 y) 7 = _; rw [h7]
  show -6 ≤ wi3 y - wj2 y ∧ wi3 y - wj2 y ≤ 28
  rw [h2]; omega
theorem em_ed_ok {y : Int} (h : 1583 ≤ y) : 1 ≤ ed y ∧ (em y = 3 ∧ ed y ≤ 31 ∨ em y = 4 ∧ ed y ≤ 30) := by
  have h1 := wl_bnd h
  rw [em_def, ed_def]
  have h44 : tr (wl y + 40) 44 = (wl y + 40) / 44 := tr_ediv (by omega) (by omega)
  rw [h44]
  have h4 : tr (3 + (wl y + 40) / 44) 4 = (3 + (wl y + 40) / 44) / 4 := tr_ediv (by omega) (by omega)
  rw [h4]; omega
/-- hebrew leap -/
@[irreducible] def hl (y : Int) : Bool := decide (fm (y * 7 + 1) 19 < 7)
theorem hl_def (y : Int) : hl y = decide (fm (y * 7 + 1) 19 < 7) := by unfold hl; rfl
@[irreducible] def ym (y : Int) : Int := if hl y then 13 else 12
theorem ym_def (y : Int) : ym y = if hl y then 13 else 12 := by unfold ym; rfl
theorem ym_a {y : Int} (h : hl y = true) : 13 = ym y := by simp [ym_def, h]
theorem ym_b {y : Int} (h : hl y = false) : 12 = ym y := by simp [ym_def, h]
def d1m (y : Int) : Int := fd (235 * y - 234) 19
def d1d (y : Int) : Int := d1m y * 29 + fd (12084 + 13753 * d1m y) 25920
/-- delay_1 -/
@[irreducible] def d1 (y : Int) : Int := if fm (3 * (d1d y + 1)) 7 < 3 then d1d y + 1 else d1d y
theorem d1_def (y : Int) : d1 y = if fm (3 * (d1d y + 1)) 7 < 3 then d1d y + 1 else d1d y := by unfold d1; rfl
theorem d1_a {y : Int} (h : fm (3 * (d1d y + 1)) 7 < 3) : d1d y + 1 = d1 y := by simp [d1_def, h]
theorem d1_b {y : Int} (h : ¬ fm (3 * (d1d y + 1)) 7 < 3) : d1d y = d1 y := by simp [d1_def, h]
/-- delay_2 -/
@[irreducible] def d2 (y : Int) : Int := if d1 (y + 1) - d1 y = 356 then 2 else if d1 y - d1 (y - 1) = 382 then 1 else 0
theorem d2_def (y : Int) : d2 y = if d1 (y + 1) - d1 y = 356 then 2 else if d1 y - d1 (y - 1) = 382 then 1 else 0 := by unfold d2; rfl
theorem d2_a {y : Int} (h : d1 (y + 1) - d1 y = 356) : 2 = d2 y := by simp [d2_def, h]
theorem d2_b {y : Int} (h : d1 (y + 1) - d1 y ≠ 356) (k : d1 y - d1 (y - 1) = 382) : 1 = d2 y := by simp [d2_def, h, k]
theorem d2_c {y : Int} (h : d1 (y + 1) - d1 y ≠ 356) (k : d1 y - d1 (y - 1) ≠ 382) : 0 = d2 y := by simp [d2_def, h, k]
@[irreducible] def mid (x : Int) : Int := if 0 < x then x else x + 1
theorem mid_def (x : Int) : mid x = if 0 < x then x else x + 1 := by unfold mid; rfl
theorem mid_a {x : Int} (h : 0 < x) : x = mid x := by simp [mid_def, h]
theorem mid_b {x : Int} (h : ¬ 0 < x) : x + 1 = mid x := by simp [mid_def, h]
/-- to_jd_hebrew of 1 Tishri -/
@[irreducible] def tj (y : Int) : Int := mid (347996 + d1 y + d2 y + 1 + 1)
theorem tj_def (y : Int) : tj y = mid (347996 + d1 y + d2 y + 1 + 1) := by unfold tj; rfl
/-- year_days -/
@[irreducible] def yd (y : Int) : Int := tj (y + 1) - tj y
theorem yd_def (y : Int) : yd y = tj (y + 1) - tj y := by unfold yd; rfl
/-- month_length, from Tishri on -/
@[irreducible] def ml (y m : Int) : Int :=
  if ([2, 4, 6, 10, 13] : List Int).any (fun x => x == m) = true then 29 else if m = 12 ∧ hl y = false then 29 else if m = 8 ∧ fm (yd y) 10 ≠ 5 then 29 else if m = 9 ∧ fm (yd y) 10 = 3 then 29 else 30
theorem ml_def (y m : Int) : ml y m = if ([2, 4, 6, 10, 13] : List Int).any (fun x => x == m) = true then 29 else if m = 12 ∧ hl y = false then 29 else if m = 8 ∧ fm (yd y) 10 ≠ 5 then 29 else if m = 9 ∧ fm (yd y) 10 = 3 then 29 else 30 := by
  unfold ml; rfl
/-- to_jd_hebrew of 15 Nisan -/
@[irreducible] def hj (y : Int) : Int :=
  if hl y = true then mid (347996 + d1 y + d2 y + 15 + 1 + ml y 7 + ml y 8 + ml y 9 + ml y 10 + ml y 11 + ml y 12 + ml y 13)
  else mid (347996 + d1 y + d2 y + 15 + 1 + ml y 7 + ml y 8 + ml y 9 + ml y 10 + ml y 11 + ml y 12)
theorem hj_a {y : Int} (h : hl y = true) : mid (347996 + d1 y + d2 y + 15 + 1 + ml y 7 + ml y 8 + ml y 9 + ml y 10 + ml y 11 + ml y 12 + ml y 13) = hj y := by unfold hj; rw [if_pos h]
theorem hj_b {y : Int} (h : hl y = false) : mid (347996 + d1 y + d2 y + 15 + 1 + ml y 7 + ml y 8 + ml y 9 + ml y 10 + ml y 11 + ml y 12) = hj y := by unfold hj; rw [if_neg (by simp [h])]
theorem hj_c {y m0 m1 m2 m3 m4 m5 m6 : Int} (h : hl y = true) (e0 : m0 = 7) (e1 : m1 = 8) (e2 : m2 = 9) (e3 : m3 = 10) (e4 : m4 = 11) (e5 : m5 = 12) (e6 : m6 = 13) : mid (347996 + d1 y + d2 y + 15 + 1 + ml y m0 + ml y m1 + ml y m2 + ml y m3 + ml y m4 + ml y m5 + ml y m6) = hj y := by
  subst e0 e1 e2 e3 e4 e5 e6; exact hj_a h
theorem hj_d {y m0 m1 m2 m3 m4 m5 : Int} (h : hl y = false) (e0 : m0 = 7) (e1 : m1 = 8) (e2 : m2 = 9) (e3 : m3 = 10) (e4 : m4 = 11) (e5 : m5 = 12) : mid (347996 + d1 y + d2 y + 15 + 1 + ml y m0 + ml y m1 + ml y m2 + ml y m3 + ml y m4 + ml y m5) = hj y := by
  subst e0 e1 e2 e3 e4 e5; exact hj_b h
/-- gregorian to_jd, in March and April -/
@[irreducible] def gj (y m d : Int) : Int :=
  1721426 - 1 + 365 * (y - 1) + fd (y - 1) 4 + -(fd (y - 1) 100) + fd (y - 1) 400 + (fd (367 * m - 362) 12 + (if isl y then -1 else -2) + d)
theorem gj_def (y m d : Int) : gj y m d = 1721426 - 1 + 365 * (y - 1) + fd (y - 1) 4 + -(fd (y - 1) 100) + fd (y - 1) 400 + (fd (367 * m - 362) 12 + (if isl y then -1 else -2) + d) := by
  unfold gj; rfl
/-- _law_long -/
@[irreducible] def ll (y : Int) : Bool := ([3, 6, 8, 11, 14, 17, 19] : List Int).any (fun x => x == fm (y - 1) 19 + 1)
theorem ll_def (y : Int) : ll y = ([3, 6, 8, 11, 14, 17, 19] : List Int).any (fun x => x == fm (y - 1) 19 + 1) := by unfold ll; rfl
/-- _law_january -/
@[irreducible] def lj (y : Int) : Int := 1721426 + 146097 * (y - 1).fdiv 400 + 365 * (y - 1).fmod 400 + fd ((y - 1).fmod 400) 4 - fd ((y - 1).fmod 400) 100
theorem lj_def (y : Int) : lj y = 1721426 + 146097 * (y - 1).fdiv 400 + 365 * (y - 1).fmod 400 + fd ((y - 1).fmod 400) 4 - fd ((y - 1).fmod 400) 100 := by unfold lj; rfl
/-- _law_apart -/
@[irreducible] def ap (y : Int) : Int := gj y (em y) (ed y) - hj (y + 3760)
theorem ap_def (y : Int) : ap y = gj y (em y) (ed y) - hj (y + 3760) := by unfold ap; rfl
end Mine
namespace Mine
local macro_rules | `(tactic| walk_at "eval Call") => `(tactic| (k_here; k_dflt (refine Call_ ?_)))
local macro_rules | `(tactic| walk_at "execs cons") => `(tactic| (dsimp only; walk_at "execs cons"))
local macro_rules | `(tactic| walk_at "execs nil") => `(tactic| (dsimp only; walk_at "execs nil"))
set_option maxHeartbeats 2000000 in
theorem cl_trunc (V0 : Int) (T0 : Tok) (V1 : Int) (T1 : Tok) :
    Claim 1 8 28 (0 < V1 ∧ V1 < 1000) [.int V0 T0, .int V1 T1] (fun t => .int (tr V0 V1) t) := by
  unfold Claim
  k_fill
  k_with_none
  w_top off
  k_with "binaryOp FloorDiv int int" => (refine floordiv_int (abs_ne (by assumption)) ?_ (Or.inl (abs_py (by assumption))))
  k_with "tree" => first | exact tr_a (by assumption) (by assumption) | exact tr_b (by assumption) (by assumption)
  intro w mean mg mb dp un gd cn cs a ccd cl outer A₀ base h₀ L m news s Q E B F X N T hk hp hd hu hret
  refine wpAny_call ?_
  k_dflt cell_enter
  k_steps
  all_goals cb_end hret
end Mine
namespace Mine
local macro_rules | `(tactic| walk_at "binaryOp FloorDiv int int") => `(tactic| (refine fd_rule (by decide) (by decide) ?_))
local macro_rules | `(tactic| walk_at "binaryOp Mod int int") => `(tactic| (refine fm_rule (by decide) ?_))
local macro_rules | `(tactic| walk_at "eval Call") => `(tactic| (k_here; k_dflt (refine Call_ ?_)))
local macro_rules | `(tactic| walk_at "execs cons") => `(tactic| (dsimp only; walk_at "execs cons"))
local macro_rules | `(tactic| walk_at "execs nil") => `(tactic| (dsimp only; walk_at "execs nil"))
set_option maxHeartbeats 2000000 in
theorem cl_isleap (V0 : Int) (T0 : Tok) :
    Claim 1 8 21 (True) [.int V0 T0] (fun _ => .bool (isl V0)) := by
  unfold Claim
  k_fill
  k_with_none
  w_top off
  k_with "tree" => first | exact isl_a (by assumption) | exact isl_b (by assumption) (by assumption) | exact isl_c (by assumption) (by assumption)
  intro w mean mg mb dp un gd cn cs a ccd cl outer A₀ base h₀ L m news s Q E B F X N T hk hp hd hu hret
  refine wpAny_call ?_
  k_dflt cell_enter
  k_steps
  all_goals cb_end hret
end Mine
namespace Mine
local macro_rules | `(tactic| walk_at "pad") => `(tactic| skip)
local macro_rules | `(tactic| walk_at "binaryOp FloorDiv int int") => `(tactic| (refine fd_rule (by decide) (by decide) ?_))
local macro_rules | `(tactic| walk_at "binaryOp Mod int int") => `(tactic| (refine fm_rule (by decide) ?_))
local macro_rules | `(tactic| walk_at "eval Call") => `(tactic| (k_here; k_dflt (refine Call_ ?_)))
local macro_rules | `(tactic| walk_at "execs cons") => `(tactic| (dsimp only; walk_at "execs cons"))
local macro_rules | `(tactic| walk_at "execs nil") => `(tactic| (dsimp only; walk_at "execs nil"))
set_option maxHeartbeats 2000000 in
theorem cl_hleap (V0 : Int) (T0 : Tok) :
    Claim 1 8 123 (True) [.int V0 T0] (fun _ => .bool (hl V0)) := by
  unfold Claim
  k_fill
  k_with_none
  w_top off
  k_with "tree" => exact (hl_def _).symm
  intro w mean mg mb dp un gd cn cs a ccd cl outer A₀ base h₀ L m news s Q E B F X N T hk hp hd hu hret
  refine wpAny_call ?_
  k_dflt cell_enter
  k_steps
  all_goals cb_end hret
end Mine
namespace Mine
local macro_rules | `(tactic| walk_at "binaryOp FloorDiv int int") => `(tactic| (refine fd_rule (by decide) (by decide) ?_))
local macro_rules | `(tactic| walk_at "binaryOp Mod int int") => `(tactic| (refine fm_rule (by decide) ?_))
local macro_rules | `(tactic| walk_at "eval Call") => `(tactic| (k_here; k_dflt (refine Call_ ?_)))
local macro_rules | `(tactic| walk_at "execs cons") => `(tactic| (dsimp only; walk_at "execs cons"))
local macro_rules | `(tactic| walk_at "execs nil") => `(tactic| (dsimp only; walk_at "execs nil"))
set_option maxHeartbeats 2000000 in
theorem cl_delay1 (V0 : Int) (T0 : Tok) :
    Claim 1 8 137 (True) [.int V0 T0] (fun t => .int (d1 V0) t) := by
  unfold Claim
  k_fill
  k_with_none
  w_top off
  k_with "tree" => first | exact d1_a (by assumption) | exact d1_b (by assumption)
  intro w mean mg mb dp un gd cn cs a ccd cl outer A₀ base h₀ L m news s Q E B F X N T hk hp hd hu hret
  refine wpAny_call ?_
  k_dflt cell_enter
  k_steps
  all_goals cb_end hret
end Mine
namespace Mine
local macro_rules | `(tactic| walk_at "binaryOp FloorDiv int int") => `(tactic| (refine fd_rule (by decide) (by decide) ?_))
local macro_rules | `(tactic| walk_at "binaryOp Mod int int") => `(tactic| (refine fm_rule (by decide) ?_))
local macro_rules | `(tactic| walk_at "eval Call") => `(tactic| (k_here; k_dflt (refine Call_ ?_)))
local macro_rules | `(tactic| walk_at "execs cons") => `(tactic| (dsimp only; walk_at "execs cons"))
local macro_rules | `(tactic| walk_at "execs nil") => `(tactic| (dsimp only; walk_at "execs nil"))
local macro_rules | `(tactic| walk_at "call ref") => `(tactic| (k_here; (with_reducible show wpAny _ _ (call (Value.ref 137) [Value.int _ _]) _ _ _); k_dflt (refine' Claim.use (cl_delay1 _ _) ?k1 ?k2 ?k3 ?k4 ?k5 ?kK ?kp ?kd ?ku ?_; (case k1 => k_asm); (case k2 => k_asm); (case k3 => k_asm); (case k4 => k_asm); (case k5 => k_asm); (case kK => first | exact rfl | assumption); (case kp => exact True.intro); (case kd => ktr_room); (case ku => ktr_units)); intro t9 h9 tk9 F9 N9; (try dsimp only); (try k_fold)))
set_option maxHeartbeats 2000000 in
theorem cl_delay2 (V0 : Int) (T0 : Tok) :
    Claim 2 16 144 (True) [.int V0 T0] (fun t => .int (d2 V0) t) := by
  unfold Claim
  k_fill
  k_with_none
  w_top off
  k_with "tree" => first | exact d2_a (by assumption) | exact d2_b (by assumption) (by assumption) | exact d2_c (by assumption) (by assumption)
  intro w mean mg mb dp un gd cn cs a ccd cl outer A₀ base h₀ L m news s Q E B F X N T hk hp hd hu hret
  refine wpAny_call ?_
  k_dflt cell_enter
  k_steps
  all_goals cb_end hret
end Mine
namespace Mine
local macro_rules | `(tactic| walk_at "pad") => `(tactic| skip)
local macro_rules | `(tactic| walk_at "binaryOp FloorDiv int int") => `(tactic| (refine fd_rule (by decide) (by decide) ?_))
local macro_rules | `(tactic| walk_at "binaryOp Mod int int") => `(tactic| (refine fm_rule (by decide) ?_))
local macro_rules | `(tactic| walk_at "eval Call") => `(tactic| (k_here; k_dflt (refine Call_ ?_)))
local macro_rules | `(tactic| walk_at "execs cons") => `(tactic| (dsimp only; walk_at "execs cons"))
local macro_rules | `(tactic| walk_at "execs nil") => `(tactic| (dsimp only; walk_at "execs nil"))
local macro_rules | `(tactic| walk_at "call ref") => `(tactic| (k_here; (with_reducible show wpAny _ _ (call (Value.ref 123) [Value.int _ _]) _ _ _); k_dflt (refine' Claim.use (cl_hleap _ _) ?k1 ?k2 ?k3 ?k4 ?k5 ?kK ?kp ?kd ?ku ?_; (case k1 => k_asm); (case k2 => k_asm); (case k3 => k_asm); (case k4 => k_asm); (case k5 => k_asm); (case kK => first | exact rfl | assumption); (case kp => exact True.intro); (case kd => ktr_room); (case ku => ktr_units)); intro t9 h9 tk9 F9 N9; (try dsimp only); (try k_fold)))
set_option maxHeartbeats 2000000 in
theorem cl_ymonths (V0 : Int) (T0 : Tok) :
    Claim 2 16 130 (True) [.int V0 T0] (fun t => .int (ym V0) t) := by
  unfold Claim
  k_fill
  k_with_none
  w_top off
  k_with "tree" => first | exact ym_a (by assumption) | exact ym_b (by assumption)
  intro w mean mg mb dp un gd cn cs a ccd cl outer A₀ base h₀ L m news s Q E B F X N T hk hp hd hu hret
  refine wpAny_call ?_
  k_dflt cell_enter
  k_steps
  all_goals cb_end hret
end Mine
namespace Mine
local macro_rules | `(tactic| walk_at "binaryOp FloorDiv int int") => `(tactic| (refine fd_rule (by decide) (by decide) ?_))
local macro_rules | `(tactic| walk_at "binaryOp Mod int int") => `(tactic| (refine fm_rule (by decide) ?_))
local macro_rules | `(tactic| walk_at "eval Call") => `(tactic| (k_here; k_dflt (refine Call_ ?_)))
local macro_rules | `(tactic| walk_at "execs cons") => `(tactic| (dsimp only; walk_at "execs cons"))
local macro_rules | `(tactic| walk_at "execs nil") => `(tactic| (dsimp only; walk_at "execs nil"))
local macro_rules | `(tactic| walk_at "call ref") => `(tactic| (k_here; (with_reducible show wpAny _ _ (call (Value.ref 123) [Value.int _ _]) _ _ _); k_dflt (refine' Claim.use (cl_hleap _ _) ?k1 ?k2 ?k3 ?k4 ?k5 ?kK ?kp ?kd ?ku ?_; (case k1 => k_asm); (case k2 => k_asm); (case k3 => k_asm); (case k4 => k_asm); (case k5 => k_asm); (case kK => first | exact rfl | assumption); (case kp => exact True.intro); (case kd => ktr_room); (case ku => ktr_units)); intro t9 h9 tk9 F9 N9; (try dsimp only); (try k_fold)))
set_option maxHeartbeats 2000000 in
theorem cl_ym13 (V0 : Int) (T0 : Tok) :
    Claim 2 16 130 (hl V0 = true) [.int V0 T0] (fun t => .int (13) t) := by
  unfold Claim
  k_fill
  k_with_none
  w_top off
  intro w mean mg mb dp un gd cn cs a ccd cl outer A₀ base h₀ L m news s Q E B F X N T hk hp hd hu hret
  refine wpAny_call ?_
  k_dflt cell_enter
  k_steps
  all_goals cb_end hret
end Mine
namespace Mine
local macro_rules | `(tactic| walk_at "pad") => `(tactic| skip)
local macro_rules | `(tactic| walk_at "binaryOp FloorDiv int int") => `(tactic| (refine fd_rule (by decide) (by decide) ?_))
local macro_rules | `(tactic| walk_at "binaryOp Mod int int") => `(tactic| (refine fm_rule (by decide) ?_))
local macro_rules | `(tactic| walk_at "eval Call") => `(tactic| (k_here; k_dflt (refine Call_ ?_)))
local macro_rules | `(tactic| walk_at "execs cons") => `(tactic| (dsimp only; walk_at "execs cons"))
local macro_rules | `(tactic| walk_at "execs nil") => `(tactic| (dsimp only; walk_at "execs nil"))
local macro_rules | `(tactic| walk_at "call ref") => `(tactic| (k_here; (with_reducible show wpAny _ _ (call (Value.ref 123) [Value.int _ _]) _ _ _); k_dflt (refine' Claim.use (cl_hleap _ _) ?k1 ?k2 ?k3 ?k4 ?k5 ?kK ?kp ?kd ?ku ?_; (case k1 => k_asm); (case k2 => k_asm); (case k3 => k_asm); (case k4 => k_asm); (case k5 => k_asm); (case kK => first | exact rfl | assumption); (case kp => exact True.intro); (case kd => ktr_room); (case ku => ktr_units)); intro t9 h9 tk9 F9 N9; (try dsimp only); (try k_fold)))
set_option maxHeartbeats 2000000 in
theorem cl_ym12 (V0 : Int) (T0 : Tok) :
    Claim 2 16 130 (hl V0 = false) [.int V0 T0] (fun t => .int (12) t) := by
  unfold Claim
  k_fill
  k_with_none
  w_top off
  intro w mean mg mb dp un gd cn cs a ccd cl outer A₀ base h₀ L m news s Q E B F X N T hk hp hd hu hret
  refine wpAny_call ?_
  k_dflt cell_enter
  k_steps
  all_goals cb_end hret
end Mine
namespace Mine
local macro_rules | `(tactic| walk_at "binaryOp FloorDiv int int") => `(tactic| (refine fd_rule (by decide) (by decide) ?_))
local macro_rules | `(tactic| walk_at "binaryOp Mod int int") => `(tactic| (refine fm_rule (by decide) ?_))
local macro_rules | `(tactic| walk_at "eval Call") => `(tactic| (k_here; k_dflt (refine Call_ ?_)))
local macro_rules | `(tactic| walk_at "execs cons") => `(tactic| (dsimp only; walk_at "execs cons"))
local macro_rules | `(tactic| walk_at "execs nil") => `(tactic| (dsimp only; walk_at "execs nil"))
set_option maxHeartbeats 2000000 in
theorem cl_midnight (V0 : Int) (T0 : Tok) :
    Claim 1 8 35 (True) [.int V0 T0] (fun t => .int (mid V0) t) := by
  unfold Claim
  k_fill
  k_with_none
  w_top off
  k_with "tree" => first | exact mid_a (by assumption) | exact mid_b (by assumption)
  intro w mean mg mb dp un gd cn cs a ccd cl outer A₀ base h₀ L m news s Q E B F X N T hk hp hd hu hret
  refine wpAny_call ?_
  k_dflt cell_enter
  k_steps
  all_goals cb_end hret
end Mine
namespace Mine
local macro_rules | `(tactic| walk_at "binaryOp FloorDiv int int") => `(tactic| (refine fd_rule (by decide) (by decide) ?_))
local macro_rules | `(tactic| walk_at "binaryOp Mod int int") => `(tactic| (refine fm_rule (by decide) ?_))
local macro_rules | `(tactic| walk_at "eval Call") => `(tactic| (k_here; k_dflt (refine Call_ ?_)))
local macro_rules | `(tactic| walk_at "execs cons") => `(tactic| (dsimp only; walk_at "execs cons"))
local macro_rules | `(tactic| walk_at "execs nil") => `(tactic| (dsimp only; walk_at "execs nil"))
local macro_rules | `(tactic| walk_at "call ref") => `(tactic| (k_here; (with_reducible show wpAny _ _ (call (Value.ref 130) [Value.int _ _]) _ _ _); k_dflt (refine' Claim.use (cl_ymonths _ _) ?k1 ?k2 ?k3 ?k4 ?k5 ?kK ?kp ?kd ?ku ?_; (case k1 => k_asm); (case k2 => k_asm); (case k3 => k_asm); (case k4 => k_asm); (case k5 => k_asm); (case kK => first | exact rfl | assumption); (case kp => exact True.intro); (case kd => ktr_room); (case ku => ktr_units)); intro t9 h9 tk9 F9 N9; (try dsimp only); (try k_fold)))
local macro_rules | `(tactic| walk_at "call ref") => `(tactic| (k_here; (with_reducible show wpAny _ _ (call (Value.ref 137) [Value.int _ _]) _ _ _); k_dflt (refine' Claim.use (cl_delay1 _ _) ?k1 ?k2 ?k3 ?k4 ?k5 ?kK ?kp ?kd ?ku ?_; (case k1 => k_asm); (case k2 => k_asm); (case k3 => k_asm); (case k4 => k_asm); (case k5 => k_asm); (case kK => first | exact rfl | assumption); (case kp => exact True.intro); (case kd => ktr_room); (case ku => ktr_units)); intro t9 h9 tk9 F9 N9; (try dsimp only); (try k_fold)))
local macro_rules | `(tactic| walk_at "call ref") => `(tactic| (k_here; (with_reducible show wpAny _ _ (call (Value.ref 144) [Value.int _ _]) _ _ _); k_dflt (refine' Claim.use (cl_delay2 _ _) ?k1 ?k2 ?k3 ?k4 ?k5 ?kK ?kp ?kd ?ku ?_; (case k1 => k_asm); (case k2 => k_asm); (case k3 => k_asm); (case k4 => k_asm); (case k5 => k_asm); (case kK => first | exact rfl | assumption); (case kp => exact True.intro); (case kd => ktr_room); (case ku => ktr_units)); intro t9 h9 tk9 F9 N9; (try dsimp only); (try k_fold)))
local macro_rules | `(tactic| walk_at "call ref") => `(tactic| (k_here; (with_reducible show wpAny _ _ (call (Value.ref 35) [Value.int _ _]) _ _ _); k_dflt (refine' Claim.use (cl_midnight _ _) ?k1 ?k2 ?k3 ?k4 ?k5 ?kK ?kp ?kd ?ku ?_; (case k1 => k_asm); (case k2 => k_asm); (case k3 => k_asm); (case k4 => k_asm); (case k5 => k_asm); (case kK => first | exact rfl | assumption); (case kp => exact True.intro); (case kd => ktr_room); (case ku => ktr_units)); intro t9 h9 tk9 F9 N9; (try dsimp only); (try k_fold)))
set_option maxHeartbeats 2000000 in
theorem cl_tjd (V0 : Int) (T0 : Tok)  (T1 : Tok)  (T2 : Tok) :
    Claim 3 24 172 (True) [.int V0 T0, .int 7 T1, .int 1 T2] (fun t => .int (tj V0) t) := by
  unfold Claim
  k_fill
  k_with_none
  w_top off
  k_with "tree" => exact (tj_def _).symm
  intro w mean mg mb dp un gd cn cs a ccd cl outer A₀ base h₀ L m news s Q E B F X N T hk hp hd hu hret
  refine wpAny_call ?_
  k_dflt cell_enter
  k_steps
  all_goals cb_end hret
end Mine
namespace Mine
local macro_rules | `(tactic| walk_at "binaryOp FloorDiv int int") => `(tactic| (refine fd_rule (by decide) (by decide) ?_))
local macro_rules | `(tactic| walk_at "binaryOp Mod int int") => `(tactic| (refine fm_rule (by decide) ?_))
local macro_rules | `(tactic| walk_at "eval Call") => `(tactic| (k_here; k_dflt (refine Call_ ?_)))
local macro_rules | `(tactic| walk_at "execs cons") => `(tactic| (dsimp only; walk_at "execs cons"))
local macro_rules | `(tactic| walk_at "execs nil") => `(tactic| (dsimp only; walk_at "execs nil"))
local macro_rules | `(tactic| walk_at "call ref") => `(tactic| (k_here; (with_reducible show wpAny _ _ (call (Value.ref 172) [Value.int _ _, Value.int 7 _, Value.int 1 _]) _ _ _); k_dflt (refine' Claim.use (cl_tjd _ _ _ _) ?k1 ?k2 ?k3 ?k4 ?k5 ?kK ?kp ?kd ?ku ?_; (case k1 => k_asm); (case k2 => k_asm); (case k3 => k_asm); (case k4 => k_asm); (case k5 => k_asm); (case kK => first | exact rfl | assumption); (case kp => exact True.intro); (case kd => ktr_room); (case ku => ktr_units)); intro t9 h9 tk9 F9 N9; (try dsimp only); (try k_fold)))
set_option maxHeartbeats 2000000 in
theorem cl_ydays (V0 : Int) (T0 : Tok) :
    Claim 4 32 151 (True) [.int V0 T0] (fun t => .int (yd V0) t) := by
  unfold Claim
  k_fill
  k_with_none
  w_top off
  k_with "tree" => exact (yd_def _).symm
  intro w mean mg mb dp un gd cn cs a ccd cl outer A₀ base h₀ L m news s Q E B F X N T hk hp hd hu hret
  refine wpAny_call ?_
  k_dflt cell_enter
  k_steps
  all_goals cb_end hret
end Mine
namespace Mine
local macro_rules | `(tactic| walk_at "binaryOp FloorDiv int int") => `(tactic| (refine fd_rule (by decide) (by decide) ?_))
local macro_rules | `(tactic| walk_at "binaryOp Mod int int") => `(tactic| (refine fm_rule (by decide) ?_))
local macro_rules | `(tactic| walk_at "eval Call") => `(tactic| (k_here; k_dflt (refine Call_ ?_)))
local macro_rules | `(tactic| walk_at "execs cons") => `(tactic| (dsimp only; walk_at "execs cons"))
local macro_rules | `(tactic| walk_at "execs nil") => `(tactic| (dsimp only; walk_at "execs nil"))
local macro_rules | `(tactic| walk_at "call ref") => `(tactic| (k_here; (with_reducible show wpAny _ _ (call (Value.ref 123) [Value.int _ _]) _ _ _); k_dflt (refine' Claim.use (cl_hleap _ _) ?k1 ?k2 ?k3 ?k4 ?k5 ?kK ?kp ?kd ?ku ?_; (case k1 => k_asm); (case k2 => k_asm); (case k3 => k_asm); (case k4 => k_asm); (case k5 => k_asm); (case kK => first | exact rfl | assumption); (case kp => exact True.intro); (case kd => ktr_room); (case ku => ktr_units)); intro t9 h9 tk9 F9 N9; (try dsimp only); (try k_fold)))
local macro_rules | `(tactic| walk_at "call ref") => `(tactic| (k_here; (with_reducible show wpAny _ _ (call (Value.ref 151) [Value.int _ _]) _ _ _); k_dflt (refine' Claim.use (cl_ydays _ _) ?k1 ?k2 ?k3 ?k4 ?k5 ?kK ?kp ?kd ?ku ?_; (case k1 => k_asm); (case k2 => k_asm); (case k3 => k_asm); (case k4 => k_asm); (case k5 => k_asm); (case kK => first | exact rfl | assumption); (case kp => exact True.intro); (case kd => ktr_room); (case ku => ktr_units)); intro t9 h9 tk9 F9 N9; (try dsimp only); (try k_fold)))
set_option maxHeartbeats 2000000 in
theorem cl_mlen (V0 : Int) (T0 : Tok) (V1 : Int) (T1 : Tok) :
    Claim 5 40 158 (7 ≤ V1 ∧ V1 ≤ 13) [.int V0 T0, .int V1 T1] (fun t => .int (ml V0 V1) t) := by
  unfold Claim
  k_fill
  k_with_none
  w_top off
  k_with "tree" => (rw [ml_def]; law_clear; simp_all; done)
  intro w mean mg mb dp un gd cn cs a ccd cl outer A₀ base h₀ L m news s Q E B F X N T hk hp hd hu hret
  refine wpAny_call ?_
  k_dflt cell_enter
  k_steps
  all_goals cb_end hret
end Mine
namespace Mine
local macro_rules | `(tactic| walk_at "binaryOp FloorDiv int int") => `(tactic| (refine fd_rule (by decide) (by decide) ?_))
local macro_rules | `(tactic| walk_at "binaryOp Mod int int") => `(tactic| (refine fm_rule (by decide) ?_))
local macro_rules | `(tactic| walk_at "eval Call") => `(tactic| (k_here; k_dflt (refine Call_ ?_)))
local macro_rules | `(tactic| walk_at "execs cons") => `(tactic| (dsimp only; walk_at "execs cons"))
local macro_rules | `(tactic| walk_at "execs nil") => `(tactic| (dsimp only; walk_at "execs nil"))
local macro_rules | `(tactic| walk_at "call ref") => `(tactic| (k_here; (with_reducible show wpAny _ _ (call (Value.ref 158) [Value.int _ _, Value.int _ _]) _ _ _); k_dflt (refine' Claim.use (cl_mlen _ _ _ _) ?k1 ?k2 ?k3 ?k4 ?k5 ?kK ?kp ?kd ?ku ?_; (case k1 => k_asm); (case k2 => k_asm); (case k3 => k_asm); (case k4 => k_asm); (case k5 => k_asm); (case kK => first | exact rfl | assumption); (case kp => first | assumption | omega | exact em_ed_ok (by assumption)); (case kd => ktr_room); (case ku => ktr_units)); intro t9 h9 tk9 F9 N9; (try dsimp only); (try k_fold)))
set_option maxHeartbeats 2000000 in
theorem cl_mdays (V0 : Int) (T0 : Tok) (V1 : Int) (T1 : Tok) :
    Claim 6 48 165 (7 ≤ V1 ∧ V1 ≤ 13) [.int V0 T0, .int V1 T1] (fun t => .int (ml V0 V1) t) := by
  unfold Claim
  k_fill
  k_with_none
  w_top off
  intro w mean mg mb dp un gd cn cs a ccd cl outer A₀ base h₀ L m news s Q E B F X N T hk hp hd hu hret
  refine wpAny_call ?_
  k_dflt cell_enter
  k_steps
  all_goals cb_end hret
end Mine
namespace Mine
local macro_rules | `(tactic| walk_at "pad") => `(tactic| skip)
local macro_rules | `(tactic| walk_at "binaryOp FloorDiv int int") => `(tactic| (refine fd_rule (by decide) (by decide) ?_))
local macro_rules | `(tactic| walk_at "binaryOp Mod int int") => `(tactic| (refine fm_rule (by decide) ?_))
local macro_rules | `(tactic| walk_at "eval Call") => `(tactic| (k_here; k_dflt (refine Call_ ?_)))
local macro_rules | `(tactic| walk_at "execs cons") => `(tactic| (dsimp only; walk_at "execs cons"))
local macro_rules | `(tactic| walk_at "execs nil") => `(tactic| (dsimp only; walk_at "execs nil"))
local macro_rules | `(tactic| walk_at "compareOp In int ref") => `(tactic| (k_here; k_dflt (refine' in_topTup ?F ?X ?l ?i ?_; (case F => k_asm); (case X => k_asm); (case l => k_is); (case i => (repeat constructor)))))
set_option maxHeartbeats 2000000 in
theorem cl_legal (V0 : Int) (T0 : Tok) (V1 : Int) (T1 : Tok) (V2 : Int) (T2 : Tok) :
    Claim 1 8 43 (1 ≤ V2 ∧ (V1 = 3 ∧ V2 ≤ 31 ∨ V1 = 4 ∧ V2 ≤ 30)) [.int V0 T0, .int V1 T1, .int V2 T2] (fun _ => .bool (true)) := by
  unfold Claim
  k_fill
  k_with_none
  w_top off
  intro w mean mg mb dp un gd cn cs a ccd cl outer A₀ base h₀ L m news s Q E B F X N T hk hp hd hu hret
  obtain ⟨hp1, ⟨e1, hp2⟩ | ⟨e1, hp2⟩⟩ := hp <;> subst e1
  all_goals refine wpAny_call ?_
  all_goals k_dflt cell_enter
  all_goals k_steps
  all_goals cb_end hret
end Mine
namespace Mine
local macro_rules | `(tactic| walk_at "pad") => `(tactic| skip)
local macro_rules | `(tactic| walk_at "binaryOp FloorDiv int int") => `(tactic| (refine fd_rule (by decide) (by decide) ?_))
local macro_rules | `(tactic| walk_at "binaryOp Mod int int") => `(tactic| (refine fm_rule (by decide) ?_))
local macro_rules | `(tactic| walk_at "eval Call") => `(tactic| (k_here; k_dflt (refine Call_ ?_)))
local macro_rules | `(tactic| walk_at "execs cons") => `(tactic| (dsimp only; walk_at "execs cons"))
local macro_rules | `(tactic| walk_at "execs nil") => `(tactic| (dsimp only; walk_at "execs nil"))
local macro_rules | `(tactic| walk_at "call ref") => `(tactic| (k_here; (with_reducible show wpAny _ _ (call (Value.ref 21) [Value.int _ _]) _ _ _); k_dflt (refine' Claim.use (cl_isleap _ _) ?k1 ?k2 ?k3 ?k4 ?k5 ?kK ?kp ?kd ?ku ?_; (case k1 => k_asm); (case k2 => k_asm); (case k3 => k_asm); (case k4 => k_asm); (case k5 => k_asm); (case kK => first | exact rfl | assumption); (case kp => exact True.intro); (case kd => ktr_room); (case ku => ktr_units)); intro t9 h9 tk9 F9 N9; (try dsimp only); (try k_fold)))
local macro_rules | `(tactic| walk_at "call ref") => `(tactic| (k_here; (with_reducible show wpAny _ _ (call (Value.ref 43) [Value.int _ _, Value.int _ _, Value.int _ _]) _ _ _); k_dflt (refine' Claim.use (cl_legal _ _ _ _ _ _) ?k1 ?k2 ?k3 ?k4 ?k5 ?kK ?kp ?kd ?ku ?_; (case k1 => k_asm); (case k2 => k_asm); (case k3 => k_asm); (case k4 => k_asm); (case k5 => k_asm); (case kK => first | exact rfl | assumption); (case kp => first | assumption | omega | exact em_ed_ok (by assumption)); (case kd => ktr_room); (case ku => ktr_units)); intro t9 h9 tk9 F9 N9; (try dsimp only); (try k_fold)))
set_option maxHeartbeats 2000000 in
theorem cl_gtojd (V0 : Int) (T0 : Tok) (V1 : Int) (T1 : Tok) (V2 : Int) (T2 : Tok) :
    Claim 2 16 50 (1 ≤ V2 ∧ (V1 = 3 ∧ V2 ≤ 31 ∨ V1 = 4 ∧ V2 ≤ 30)) [.int V0 T0, .int V1 T1, .int V2 T2] (fun t => .int (gj V0 V1 V2) t) := by
  unfold Claim
  k_fill
  k_with_none
  w_top off
  k_with "tree" => (rw [gj_def]; law_clear; simp_all; done)
  intro w mean mg mb dp un gd cn cs a ccd cl outer A₀ base h₀ L m news s Q E B F X N T hk hp hd hu hret
  obtain ⟨hp1, ⟨e1, hp2⟩ | ⟨e1, hp2⟩⟩ := hp <;> subst e1
  all_goals refine wpAny_call ?_
  all_goals k_dflt cell_enter
  all_goals k_steps
  all_goals cb_end hret
end Mine
namespace Mine
local macro_rules | `(tactic| walk_at "binaryOp FloorDiv int int") => `(tactic| (refine fd_rule (by decide) (by decide) ?_))
local macro_rules | `(tactic| walk_at "binaryOp Mod int int") => `(tactic| (refine fm_rule (by decide) ?_))
local macro_rules | `(tactic| walk_at "eval Call") => `(tactic| (k_here; k_dflt (refine Call_ ?_)))
local macro_rules | `(tactic| walk_at "execs cons") => `(tactic| (dsimp only; walk_at "execs cons"))
local macro_rules | `(tactic| walk_at "execs nil") => `(tactic| (dsimp only; walk_at "execs nil"))
local macro_rules | `(tactic| walk_at "call ref") => `(tactic| (k_here; (with_reducible show wpAny _ _ (call (Value.ref 130) [Value.int _ _]) _ _ _); k_dflt (refine' Claim.use (cl_ym13 _ _) ?k1 ?k2 ?k3 ?k4 ?k5 ?kK ?kp ?kd ?ku ?_; (case k1 => k_asm); (case k2 => k_asm); (case k3 => k_asm); (case k4 => k_asm); (case k5 => k_asm); (case kK => first | exact rfl | assumption); (case kp => assumption); (case kd => ktr_room); (case ku => ktr_units)); intro t9 h9 tk9 F9 N9; (try dsimp only); (try k_fold)))
local macro_rules | `(tactic| walk_at "call ref") => `(tactic| (k_here; (with_reducible show wpAny _ _ (call (Value.ref 130) [Value.int _ _]) _ _ _); k_dflt (refine' Claim.use (cl_ym12 _ _) ?k1 ?k2 ?k3 ?k4 ?k5 ?kK ?kp ?kd ?ku ?_; (case k1 => k_asm); (case k2 => k_asm); (case k3 => k_asm); (case k4 => k_asm); (case k5 => k_asm); (case kK => first | exact rfl | assumption); (case kp => assumption); (case kd => ktr_room); (case ku => ktr_units)); intro t9 h9 tk9 F9 N9; (try dsimp only); (try k_fold)))
local macro_rules | `(tactic| walk_at "call ref") => `(tactic| (k_here; (with_reducible show wpAny _ _ (call (Value.ref 137) [Value.int _ _]) _ _ _); k_dflt (refine' Claim.use (cl_delay1 _ _) ?k1 ?k2 ?k3 ?k4 ?k5 ?kK ?kp ?kd ?ku ?_; (case k1 => k_asm); (case k2 => k_asm); (case k3 => k_asm); (case k4 => k_asm); (case k5 => k_asm); (case kK => first | exact rfl | assumption); (case kp => exact True.intro); (case kd => ktr_room); (case ku => ktr_units)); intro t9 h9 tk9 F9 N9; (try dsimp only); (try k_fold)))
local macro_rules | `(tactic| walk_at "call ref") => `(tactic| (k_here; (with_reducible show wpAny _ _ (call (Value.ref 144) [Value.int _ _]) _ _ _); k_dflt (refine' Claim.use (cl_delay2 _ _) ?k1 ?k2 ?k3 ?k4 ?k5 ?kK ?kp ?kd ?ku ?_; (case k1 => k_asm); (case k2 => k_asm); (case k3 => k_asm); (case k4 => k_asm); (case k5 => k_asm); (case kK => first | exact rfl | assumption); (case kp => exact True.intro); (case kd => ktr_room); (case ku => ktr_units)); intro t9 h9 tk9 F9 N9; (try dsimp only); (try k_fold)))
local macro_rules | `(tactic| walk_at "call ref") => `(tactic| (k_here; (with_reducible show wpAny _ _ (call (Value.ref 35) [Value.int _ _]) _ _ _); k_dflt (refine' Claim.use (cl_midnight _ _) ?k1 ?k2 ?k3 ?k4 ?k5 ?kK ?kp ?kd ?ku ?_; (case k1 => k_asm); (case k2 => k_asm); (case k3 => k_asm); (case k4 => k_asm); (case k5 => k_asm); (case kK => first | exact rfl | assumption); (case kp => exact True.intro); (case kd => ktr_room); (case ku => ktr_units)); intro t9 h9 tk9 F9 N9; (try dsimp only); (try k_fold)))
local macro_rules | `(tactic| walk_at "call ref") => `(tactic| (k_here; (with_reducible show wpAny _ _ (call (Value.ref 165) [Value.int _ _, Value.int _ _]) _ _ _); k_dflt (refine' Claim.use (cl_mdays _ _ _ _) ?k1 ?k2 ?k3 ?k4 ?k5 ?kK ?kp ?kd ?ku ?_; (case k1 => k_asm); (case k2 => k_asm); (case k3 => k_asm); (case k4 => k_asm); (case k5 => k_asm); (case kK => first | exact rfl | assumption); (case kp => first | assumption | omega | exact em_ed_ok (by assumption)); (case kd => ktr_room); (case ku => ktr_units)); intro t9 h9 tk9 F9 N9; (try dsimp only); (try k_fold)))
local macro_rules | `(tactic| walk_at "call type:range") => `(tactic| (dsimp only [Int.reduceAdd]; walk_at "call type:range"))
set_option maxHeartbeats 2000000 in
theorem cl_hjd (V0 : Int) (T0 : Tok)  (T1 : Tok)  (T2 : Tok) :
    Claim0 7 56 172 (True) [.int V0 T0, .int 1 T1, .int 15 T2] (fun t => .int (hj V0) t) := by
  unfold Claim0
  k_fill
  k_with_none
  w_top off
  intro w mean mg mb dp un gd cn cs a ccd cl outer A₀ base h₀ L m s Q E B F X N T hk hp hd hu hret
  rcases Bool.eq_false_or_eq_true (hl V0) with hl0 | hl0
  all_goals refine wpAny_call ?_
  all_goals k_dflt cell_enter
  all_goals k_steps
  · refine' cb_retI (Q := Q) hret ?e1 ?e2 ?e3
    (case e2 => k_asm)
    (case e3 => k_asm)
    refine hj_c hl0 ?_ ?_ ?_ ?_ ?_ ?_ ?_
    all_goals decide
  · refine' cb_retI (Q := Q) hret ?f1 ?f2 ?f3
    (case f2 => k_asm)
    (case f3 => k_asm)
    refine hj_d hl0 ?_ ?_ ?_ ?_ ?_ ?_
    all_goals decide
end Mine
namespace Mine
local macro_rules | `(tactic| walk_at "binaryOp FloorDiv int int") => `(tactic| (refine fd_rule (by decide) (by decide) ?_))
local macro_rules | `(tactic| walk_at "binaryOp Mod int int") => `(tactic| (refine fm_rule (by decide) ?_))
local macro_rules | `(tactic| walk_at "eval Call") => `(tactic| (k_here; k_dflt (refine Call_ ?_)))
local macro_rules | `(tactic| walk_at "execs cons") => `(tactic| (dsimp only; walk_at "execs cons"))
local macro_rules | `(tactic| walk_at "execs nil") => `(tactic| (dsimp only; walk_at "execs nil"))
local macro_rules | `(tactic| walk_at "call ref") => `(tactic| (k_here; (with_reducible show wpAny _ _ (call (Value.ref 28) [Value.int _ _, Value.int _ _]) _ _ _); k_dflt (refine' Claim.use (cl_trunc _ _ _ _) ?k1 ?k2 ?k3 ?k4 ?k5 ?kK ?kp ?kd ?ku ?_; (case k1 => k_asm); (case k2 => k_asm); (case k3 => k_asm); (case k4 => k_asm); (case k5 => k_asm); (case kK => first | exact rfl | assumption); (case kp => first | exact ⟨by decide, by decide⟩ | exact wi2_bnd (by assumption)); (case kd => ktr_room); (case ku => ktr_units)); intro t9 h9 tk9 F9 N9; (try dsimp only); (try k_fold)))
local macro_rules | `(tactic| walk_at "binaryOp Mult int int") => `(tactic| first
  | (refine mul_int ?_ (PySem.IntMulOk.of_left (wi2_28 (by assumption))))
  | (refine mul_int ?_ (PySem.IntMulOk.of_right (wn_11 (by assumption)))))
set_option maxHeartbeats 8000000 in
theorem cl_western (V0 : Int) (T0 : Tok) :
    ClaimT 2 16 108 (1583 ≤ V0) [.int V0 T0] V0 (em V0) (ed V0) := by
  unfold ClaimT
  k_fill
  k_with_none
  w_top off
  intro w mean mg mb dp un gd cn cs a ccd cl outer A₀ base h₀ L m s Q E B F X N T hk hp hd hu hret
  refine wpAny_call ?_
  k_dflt cell_enter
  k_steps
  simp only [em_def, ed_def] at hret
  exact hret _ _ _ _ _ _ _ (by k_asm) (by k_asm)
end Mine
namespace Mine
local macro_rules | `(tactic| walk_at "binaryOp FloorDiv int int") => `(tactic| (refine fd_rule (by decide) (by decide) ?_))
local macro_rules | `(tactic| walk_at "binaryOp Mod int int") => `(tactic| (refine fm_rule (by decide) ?_))
local macro_rules | `(tactic| walk_at "eval Call") => `(tactic| (k_here; k_dflt (refine Call_ ?_)))
local macro_rules | `(tactic| walk_at "execs cons") => `(tactic| (dsimp only; walk_at "execs cons"))
local macro_rules | `(tactic| walk_at "execs nil") => `(tactic| (dsimp only; walk_at "execs nil"))
local macro_rules | `(tactic| walk_at "call ref") => `(tactic| (k_here; (with_reducible show wpAny _ _ (call (Value.ref 108) [Value.int _ _]) _ _ _); k_dflt (refine' ClaimT.use (cl_western _ _) ?k1 ?k2 ?k3 ?k5 ?kK ?kp ?kd ?ku ?_; (case k1 => k_asm); (case k2 => k_asm); (case k3 => k_asm); (case k5 => k_asm); (case kK => first | exact rfl | assumption); (case kp => assumption); (case kd => ktr_room); (case ku => ktr_units)); intro d9 u9 v9 w9 c9 h9 tk9 F9 N9; (try dsimp only); (try k_fold)))
set_option maxHeartbeats 8000000 in
theorem cl_easter (V0 : Int) (T0 : Tok) :
    ClaimT 3 24 101 (1583 ≤ V0) [.int V0 T0] V0 (em V0) (ed V0) := by
  unfold ClaimT
  k_fill
  k_with_none
  w_top off
  intro w mean mg mb dp un gd cn cs a ccd cl outer A₀ base h₀ L m s Q E B F X N T hk hp hd hu hret
  refine wpAny_call ?_
  k_dflt (refine' code_def ?k1 ?k2 ?k3 ?k4 ?k5 ?kA ?kF ?kK ?k6 ?k7 ?k8 ?k9 ?kB ?_ ?c2 ?c3 ?c4 ?c5)
  (case kA => exact rfl); (case kF => exact rfl); (case kK => assumption)
  (case k1 => k_asm); (case k2 => k_asm); (case k3 => k_asm); (case k4 => k_asm); (case k5 => k_asm)
  (case k6 => k_is); (case k7 => k_is); (case k8 => ktr_room)
  (case k9 => exact binds_K (by k_in) rfl (by k_is) rfl rfl rfl)
  (case c5 => decide); (case kB => exact locs rfl); (case c2 => exact rfl); (case c3 => exact rfl); (case c4 => exact rfl)
  intro g' L' h' FG' F' N' B' X' T'
  (try dsimp only); (try k_lift B'); (try k_fold)
  k_steps
  exact hret _ _ _ _ _ _ _ (by k_asm) (by k_asm)
end Mine
namespace Mine
local macro_rules | `(tactic| walk_at "binaryOp FloorDiv int int") => `(tactic| (refine fd_rule (by decide) (by decide) ?_))
local macro_rules | `(tactic| walk_at "binaryOp Mod int int") => `(tactic| (refine fm_rule (by decide) ?_))
local macro_rules | `(tactic| walk_at "eval Call") => `(tactic| (k_here; k_dflt (refine Call_ ?_)))
local macro_rules | `(tactic| walk_at "execs cons") => `(tactic| (dsimp only; walk_at "execs cons"))
local macro_rules | `(tactic| walk_at "execs nil") => `(tactic| (dsimp only; walk_at "execs nil"))
local macro_rules | `(tactic| walk_at "call ref") => `(tactic| (k_here; (with_reducible show wpAny _ _ (call (Value.ref 50) [Value.int _ _, Value.int _ _, Value.int _ _]) _ _ _); k_dflt (refine' Claim.use (cl_gtojd _ _ _ _ _ _) ?k1 ?k2 ?k3 ?k4 ?k5 ?kK ?kp ?kd ?ku ?_; (case k1 => k_asm); (case k2 => k_asm); (case k3 => k_asm); (case k4 => k_asm); (case k5 => k_asm); (case kK => first | exact rfl | assumption); (case kp => first | assumption | omega | exact em_ed_ok (by assumption)); (case kd => ktr_room); (case ku => ktr_units)); intro t9 h9 tk9 F9 N9; (try dsimp only); (try k_fold)))
local macro_rules | `(tactic| walk_at "call ref") => `(tactic| (k_here; (with_reducible show wpAny _ _ (call (Value.ref 172) [Value.int _ _, Value.int 1 _, Value.int 15 _]) _ _ _); k_dflt (refine' Claim0.use (cl_hjd _ _ _ _) ?k1 ?k2 ?k3 ?k5 ?kK ?kp ?kd ?ku ?_; (case k1 => k_asm); (case k2 => k_asm); (case k3 => k_asm); (case k5 => k_asm); (case kK => first | exact rfl | assumption); (case kp => exact True.intro); (case kd => ktr_room); (case ku => ktr_units)); intro t9 h9 tk9 F9 N9; (try dsimp only); (try k_fold)))
local macro_rules | `(tactic| walk_at "call ref") => `(tactic| (k_here; (with_reducible show wpAny _ _ (call (Value.ref 101) [Value.int _ _]) _ _ _); k_dflt (refine' ClaimT.use (cl_easter _ _) ?k1 ?k2 ?k3 ?k5 ?kK ?kp ?kd ?ku ?_; (case k1 => k_asm); (case k2 => k_asm); (case k3 => k_asm); (case k5 => k_asm); (case kK => first | exact rfl | assumption); (case kp => assumption); (case kd => ktr_room); (case ku => ktr_units)); intro d9 u9 v9 w9 c9 h9 tk9 F9 N9; (try dsimp only); (try k_fold)))
set_option maxHeartbeats 2000000 in
theorem cl_apart (V0 : Int) (T0 : Tok) :
    Claim0 8 64 213 (1583 ≤ V0) [.int V0 T0] (fun t => .int (ap V0) t) := by
  unfold Claim0
  k_fill
  k_with_none
  w_top off
  k_with "tree" => exact (ap_def _).symm
  intro w mean mg mb dp un gd cn cs a ccd cl outer A₀ base h₀ L m s Q E B F X N T hk hp hd hu hret
  refine wpAny_call ?_
  k_dflt cell_enter
  k_steps
  all_goals cb_end hret
end Mine
namespace Mine
local macro_rules | `(tactic| walk_at "binaryOp FloorDiv int int") => `(tactic| (refine fd_rule (by decide) (by decide) ?_))
local macro_rules | `(tactic| walk_at "binaryOp Mod int int") => `(tactic| (refine fm_rule (by decide) ?_))
local macro_rules | `(tactic| walk_at "eval Call") => `(tactic| (k_here; k_dflt (refine Call_ ?_)))
local macro_rules | `(tactic| walk_at "execs cons") => `(tactic| (dsimp only; walk_at "execs cons"))
local macro_rules | `(tactic| walk_at "execs nil") => `(tactic| (dsimp only; walk_at "execs nil"))
local macro_rules | `(tactic| walk_at "compareOp In int ref") => `(tactic| (k_here; k_dflt (refine' in_topTup ?F ?X ?l ?i ?_; (case F => k_asm); (case X => k_asm); (case l => k_is); (case i => (repeat constructor)))))
set_option maxHeartbeats 2000000 in
theorem cl_llong (V0 : Int) (T0 : Tok) :
    Claim 1 8 187 (True) [.int V0 T0] (fun _ => .bool (ll V0)) := by
  unfold Claim
  k_fill
  k_with_none
  w_top off
  k_with "tree" => exact (ll_def _).symm
  intro w mean mg mb dp un gd cn cs a ccd cl outer A₀ base h₀ L m news s Q E B F X N T hk hp hd hu hret
  refine wpAny_call ?_
  k_dflt cell_enter
  k_steps
  all_goals cb_end hret
end Mine
namespace Mine
local macro_rules | `(tactic| walk_at "binaryOp FloorDiv int int") => `(tactic| (refine fd_rule (by decide) (by decide) ?_))
local macro_rules | `(tactic| walk_at "binaryOp Mod int int") => `(tactic| (refine fm_rule (by decide) ?_))
local macro_rules | `(tactic| walk_at "eval Call") => `(tactic| (k_here; k_dflt (refine Call_ ?_)))
local macro_rules | `(tactic| walk_at "execs cons") => `(tactic| (dsimp only; walk_at "execs cons"))
local macro_rules | `(tactic| walk_at "execs nil") => `(tactic| (dsimp only; walk_at "execs nil"))
set_option maxHeartbeats 2000000 in
theorem cl_ljan (V0 : Int) (T0 : Tok) :
    Claim0 1 8 199 (True) [.int V0 T0] (fun t => .int (lj V0) t) := by
  unfold Claim0
  k_fill
  k_with_none
  w_top off
  k_with "tree" => exact (lj_def _).symm
  intro w mean mg mb dp un gd cn cs a ccd cl outer A₀ base h₀ L m s Q E B F X N T hk hp hd hu hret
  refine wpAny_call ?_
  k_dflt cell_enter
  k_steps
  all_goals cb_end hret
end Mine
namespace Mine
open PySem.Spec PySem.Calls PyProof.Rows.LCg PyProof.Rows.LCt
section
variable {prog : Program} {w : World} {A : Around} {E : Value → Shared → Prop} {s : Shared} {h₀ : Heap} {L : Addr} {m : PySem.Str → Option Value} {env : Env}
/-- a comprehension with one test over a tuple that stands at the top -/
theorem tup_comp {ct elt iter : PySem.Expr} {x : PySem.Str} {px : Pos} {scope : Scope} {cl : List (PySem.Str × Addr)} {pos : Pos} {Q : Value → Shared → Prop} {ax : Addr} {its : Array Value} {news : List (Addr × Obj)}
    (F : Fr h₀ L s.heap m) (N : News h₀ L s.heap news) (hh : A.handled = none)
    (hclos : closureFor scope env = pure cl) (hcell : ∀ y ∈ scope.names, y.2 ≠ .cell) (hkind : scope.kind = .function)
    (hnames : ∀ y ∈ scope.names, y.2 = .local → scope.names.lookup y.1 = some .local) (hx : scope.names.lookup x = some .local)
    (hit : ∀ Q' : Value → Shared → Prop, Q' (.ref ax) s → wpAny (model prog w) A (eval iter env) Q' E s)
    (ht : IsTup h₀ ax its) (hsz : its.size ≤ sizeLine)
    (R : ∀ g, CompRestT prog w A h₀ L m env ct elt x scope cl { s with heap := g } (fun _ => True) (fun i v => its[i]? = some v) (FinE h₀ L m { s with heap := g } Q) its.size 0 [] news)
    (hs : ∀ x, foldedSetIterable iter env x = pure x := by intro _; rfl) :
    wpAny (model prog w) A (eval (.ListComp elt [⟨.Name x px, iter, [ct], 0⟩] scope pos) env) Q E s := by
  rw [eval_ListComp]
  refine wpAny_comprehension_free (use := none) rfl hs hclos hkind hnames (hit _ ?_)
  have hl : s.heap.IsTuple ax its := IsTup.keeps ht F.keep
  have hlt : ax < s.heap.objs.size := by obtain ⟨_, e, _⟩ := hl; exact Heap.lt_size e
  refine wpAny_pyIter_tuple hl ?_
  have up : ∀ b o, s.heap.get? b = some o → (s.heap.push { cls := .type "tuple_iterator", data := .fields #[.ref ax, .int 0 0] }).get? b = some o := fun b o e => Heap.get?_push_of_some _ e
  refine block_T (S := fun _ => True) (Walks.tuple hh s.heap.objs.size ax (Nat.ne_of_lt hlt) its) hsz (fun i h st => by obtain ⟨o, e, _⟩ := st.1; exact ⟨o, e⟩)
    (fun i h h' o nw st e e' k _ _ => ⟨by obtain ⟨o', q, r⟩ := st.1; rw [e] at q; cases q; exact ⟨o, e', r⟩, IsTup.keeps ht k⟩)
    hcell hkind hx ⟨⟨_, Heap.get?_push_size _ rfl, rfl, rfl⟩, hl.push _⟩ (fun b hb => ?_)
    (F.keeps up) (N.grown up) (Nat.ne_of_lt F.ns.lt) (next_is_new F) (fun p hp => Nat.ne_of_lt (Heap.lt_size (N p hp).1)) trivial (R _) ?_
  · show b < (s.heap.push _).objs.size
    rw [Heap.size_push]
    rcases List.mem_cons.mp hb with rfl | hb
    · exact Nat.lt_succ_self _
    · rw [List.mem_singleton.mp hb]; exact Nat.lt_succ_of_lt hlt
  · intro D C h tk m' ys news' F' N' o1 hn hC₀ hD₀ hCL hDL hCD offC fin
    refine ⟨m', hn, fun h'' hs'' => fin D h'' tk (F'.change hs'' hCL hC₀) (fun p hp => ?_) o1⟩
    refine ⟨hs''.extBut _ _ ?_ (N' p hp).1, (N' p hp).2⟩
    rcases List.mem_cons.mp hp with rfl | hp
    · exact Ne.symm hCD
    · exact offC p hp

theorem at_of {its : List Value} {ks : List Int} (hi : IntsAre its ks) : ∀ (i : Nat) (v : Value), its[i]? = some v → ∃ a t, v = .int a t ∧ ks[i]? = some a := by
  induction hi with
  | nil => intro i v h; simp at h
  | cons n t _ ih =>
    intro i v h
    cases i with
    | zero => simp at h; subst h; exact ⟨n, t, rfl, by simp⟩
    | succ i => simp at h; obtain ⟨a, u, e, f⟩ := ih i v h; exact ⟨a, u, e, by simpa using f⟩
theorem len_of {its : List Value} {ks : List Int} (hi : IntsAre its ks) : its.length = ks.length := by
  induction hi with
  | nil => rfl
  | cons n t _ ih => simp [ih]
/-- how many of ks are at most r -/
def upto (ks : List Int) (r : Int) : Nat := (ks.filter fun a => decide (a ≤ r)).length
theorem upto_take (ks : List Int) (r : Int) (i : Nat) (a : Int) (h : ks[i]? = some a) : upto (ks.take (i + 1)) r = upto (ks.take i) r + (if a ≤ r then 1 else 0) := by
  unfold upto
  rw [List.take_add_one, h, List.filter_append, List.length_append]
  by_cases c : a ≤ r <;> simp [c]
/-- the turns of such a block, its test «item <= r», the item itself kept: the list has as many items as there are ints up to r -/
theorem rest_le {ct elt : PySem.Expr} {x : PySem.Str} {scope : Scope} {cl : List (PySem.Str × Addr)} {news : List (Addr × Obj)} {its : Array Value} {ks : List Int} {r : Int} {Fin : List Value → List (Addr × Obj) → Prop}
    (hi : IntsAre its.toList ks)
    (ht : ∀ (a : Int) (t : Tok) (I : Addr) (oI : Obj) (C : Addr) (oC : Obj) (D : Addr) (ys : List Value) (m₂ : PySem.Str → Option Value) (h : Heap) (tk : Nat) (E' : Value → Shared → Prop) (P : Bool → Shared → Prop),
      NsObj oC m₂ → m₂ x = some (.int a t) → Fr h₀ L h m → News h₀ L h ((I, oI) :: (C, oC) :: (D, lst ys) :: news) → Off3 I C D news → ((@Ne Nat I C) ∧ (@Ne Nat I D) ∧ (@Ne Nat C D)) →
      (∀ h' tk', Fr h₀ L h' m → News h₀ L h' ((I, oI) :: (C, oC) :: (D, lst ys) :: news) → P (decide (a ≤ r)) { s with heap := h', toks := tk' }) →
      wpAny (model prog w) A (isTrue ct (compEnvC scope cl C env) (eval ct (compEnvC scope cl C env))) P E' { s with heap := h, toks := tk })
    (he : ∀ (a : Int) (t : Tok) (I : Addr) (oI : Obj) (C : Addr) (oC : Obj) (D : Addr) (ys : List Value) (m₂ : PySem.Str → Option Value) (h : Heap) (tk : Nat) (E' : Value → Shared → Prop) (P : Value → Shared → Prop),
      NsObj oC m₂ → m₂ x = some (.int a t) → Fr h₀ L h m → News h₀ L h ((I, oI) :: (C, oC) :: (D, lst ys) :: news) → Off3 I C D news → ((@Ne Nat I C) ∧ (@Ne Nat I D) ∧ (@Ne Nat C D)) →
      (∀ v h' tk', Fr h₀ L h' m → News h₀ L h' ((I, oI) :: (C, oC) :: (D, lst ys) :: news) → P v { s with heap := h', toks := tk' }) →
      wpAny (model prog w) A (eval elt (compEnvC scope cl C env)) P E' { s with heap := h, toks := tk })
    (hf : ∀ ys, ys.length = upto ks r → Fin ys news) :
    ∀ (k i : Nat) (ys : List Value), k + i = its.size → ys.length = upto (ks.take i) r →
      CompRestT prog w A h₀ L m env ct elt x scope cl s (fun _ => True) (fun i v => its[i]? = some v) Fin k i ys news := by
  have hlen : its.size = ks.length := by rw [← len_of hi]; simp
  intro k
  induction k with
  | zero =>
    intro i ys hk hy
    refine CompRestT.zero (hf ys ?_)
    rw [hy, List.take_of_length_le (by omega)]
  | succ k ih =>
    intro i ys hk hy
    refine CompRestT.succ fun v I oI C oC D m₂ h tk E' hv hC hx F N off hne => ?_
    obtain ⟨a, t, rfl, ha⟩ := at_of hi i v (by simpa using hv)
    have hup := upto_take ks r i a ha
    refine ht a t I oI C oC D ys m₂ h tk E' _ hC hx F N off hne fun h₁ tk₁ F₁ N₁ => ?_
    by_cases c : a ≤ r
    · simp only [c, decide_true, if_true] at hup ⊢
      refine he a t I oI C oC D ys m₂ h₁ tk₁ E' _ hC hx F₁ N₁ off hne fun v h₂ tk₂ F₂ N₂ => ?_
      refine ⟨h₂, tk₂, news, rfl, F₂, N₂, off, trivial, ih (i + 1) _ (by omega) ?_⟩
      rw [hup, List.length_append, List.length_singleton, hy]
    · simp only [c, decide_false, if_false, Bool.false_eq_true] at hup ⊢
      exact ⟨h₁, tk₁, news, rfl, F₁, N₁, off, trivial, ih (i + 1) _ (by omega) (by rw [hup, hy]; rfl)⟩
@[irreducible] def upn (r : Int) : Int := (upto [3, 6, 8, 11, 14, 17, 19] r : Nat)
theorem upn_def (r : Int) : upn r = (upto [3, 6, 8, 11, 14, 17, 19] r : Nat) := by unfold upn; rfl
theorem upto_le (ks : List Int) (r : Int) : upto ks r ≤ ks.length := List.length_filter_le _ _
theorem len_upn {d : Addr} {ys : List Value} {r : Int} {news : List (Addr × Obj)} {Q : Value → Shared → Prop} (N : News h₀ L s.heap news) (hm : (d, lst ys) ∈ news)
    (hy : ys.length = upto [3, 6, 8, 11, 14, 17, 19] r) (h : Q (.int (upn r) (s.toks + 1)) { s with toks := s.toks + 1 + 1 }) : wpAny (model prog w) A (call (.builtin "len") [.ref d]) Q E s := by
  have h7 : upto [3, 6, 8, 11, 14, 17, 19] r ≤ 7 := upto_le _ _
  refine PyProof.Rows.len_list (News.isList N hm) ?_ ?_
  · rw [List.size_toArray, hy]; omega
  · rw [List.size_toArray, hy, ← upn_def]; exact h
/-- a goal that the walk leaves -/
def StopHere (P : Prop) : Prop := P
theorem stopHere {P : Prop} (h : StopHere P) : P := h
end
/-- _law_tishri -/
def lmo (y : Int) : Int := 31524 + 765433 * (235 * (y - 1).fdiv 19 + 12 * (y - 1).fmod 19 + upn ((y - 1).fmod 19))
def lt0 (d p : Int) (a b : Bool) : Int :=
  if 19440 ≤ p then d + 1 else if fm d 7 = 2 ∧ 9924 ≤ p ∧ a = false then d + 1 else if fm d 7 = 1 ∧ 16789 ≤ p ∧ b = true then d + 1 else d
def lt1 (d : Int) : Int := 347997 + (if (([0, 3, 5] : List Int).any fun x => x == fm d 7) = true then d + 1 else d)
@[irreducible] def lt (y : Int) : Int := lt1 (lt0 ((lmo y).fdiv 25920) ((lmo y).fmod 25920) (ll y) (ll (y - 1)))
theorem lt_def (y : Int) : lt y = lt1 (lt0 ((lmo y).fdiv 25920) ((lmo y).fmod 25920) (ll y) (ll (y - 1))) := by unfold lt; rfl
/-- _law_gauss -/
def gm (y : Int) : Int := fm (15 - fd (13 + 8 * fd y 100) 25 + fd y 100 - fd (fd y 100) 4) 30
def gf (y : Int) : Int := fm (19 * fm y 19 + gm y) 30
def go (y : Int) : Int := fm (2 * fm y 4 + 4 * fm y 7 + 6 * gf y + fm (4 + fd y 100 - fd (fd y 100) 4) 7) 7
def gx (f o g : Int) : Int := if o = 6 ∧ (f = 29 ∨ f = 28 ∧ fm (11 * g + 11) 30 < 19) then -1 else o
@[irreducible] def lg (y : Int) : Int := lj y + (lj (y + 1) - lj y) - 285 + gf y + gx (gf y) (go y) (gm y)
theorem lg_def (y : Int) : lg y = lj y + (lj (y + 1) - lj y) - 285 + gf y + gx (gf y) (go y) (gm y) := by unfold lg; rfl
/-- _law_due -/
@[irreducible] def due (y : Int) : Int := lg y - lt (y + 3761) + 163
theorem due_def (y : Int) : due y = lg y - lt (y + 3761) + 163 := by unfold due; rfl
end Mine
namespace Mine
local macro_rules | `(tactic| walk_at "binaryOp FloorDiv int int") => `(tactic| (refine fd_rule (by decide) (by decide) ?_))
local macro_rules | `(tactic| walk_at "binaryOp Mod int int") => `(tactic| (refine fm_rule (by decide) ?_))
local macro_rules | `(tactic| walk_at "eval Call") => `(tactic| (k_here; k_dflt (refine Call_ ?_)))
local macro_rules | `(tactic| walk_at "execs cons") => `(tactic| (dsimp only; walk_at "execs cons"))
local macro_rules | `(tactic| walk_at "execs nil") => `(tactic| (dsimp only; walk_at "execs nil"))
local macro_rules | `(tactic| walk_at "call ref") => `(tactic| (k_here; (with_reducible show wpAny _ _ (call (Value.ref 187) [Value.int _ _]) _ _ _); k_dflt (refine' Claim.use (cl_llong _ _) ?k1 ?k2 ?k3 ?k4 ?k5 ?kK ?kp ?kd ?ku ?_; (case k1 => k_asm); (case k2 => k_asm); (case k3 => k_asm); (case k4 => k_asm); (case k5 => k_asm); (case kK => first | exact rfl | assumption); (case kp => exact True.intro); (case kd => ktr_room); (case ku => ktr_units)); intro t9 h9 tk9 F9 N9; (try dsimp only); (try k_fold)))
local macro_rules | `(tactic| walk_at "compareOp In int ref") => `(tactic| (k_here; k_dflt (refine' in_topTup ?F ?X ?l ?i ?_; (case F => k_asm); (case X => k_asm); (case l => k_is); (case i => (repeat constructor)))))
local macro_rules | `(tactic| walk_at "eval ListComp") => `(tactic| (k_here; refine stopHere ?_))
local macro_rules | `(tactic| walk_at "call builtin:len") => `(tactic| (k_here; (try dsimp only); k_dflt (refine len_upn (by k_asm) (by k_mem) (by with_reducible assumption) ?_)))
set_option maxHeartbeats 2000000 in
theorem cl_ltish (V0 : Int) (T0 : Tok) :
    Claim0 2 16 192 (True) [.int V0 T0] (fun t => .int (lt V0) t) := by
  unfold Claim0
  k_fill
  k_with_none
  w_top off
  k_with "tree" => (rw [lt_def]; unfold lmo; law_clear; generalize (31524 + 765433 * (235 * (V0 - 1).fdiv 19 + 12 * (V0 - 1).fmod 19 + upn ((V0 - 1).fmod 19))).fdiv 25920 = d9 at *; generalize (31524 + 765433 * (235 * (V0 - 1).fdiv 19 + 12 * (V0 - 1).fmod 19 + upn ((V0 - 1).fmod 19))).fmod 25920 = p9 at *; first | (have e9 : lt0 d9 p9 (ll V0) (ll (V0 - 1)) = d9 := (by unfold lt0; (repeat' split) <;> first | rfl | omega | (simp_all; done)); rw [e9, lt1]; first | rw [if_pos (by assumption)] | rw [if_neg (by simp only [Bool.not_eq_true]; assumption)]) | (have e9 : lt0 d9 p9 (ll V0) (ll (V0 - 1)) = d9 + 1 := (by unfold lt0; (repeat' split) <;> first | rfl | omega | (simp_all; done)); rw [e9, lt1]; first | rw [if_pos (by assumption)] | rw [if_neg (by simp only [Bool.not_eq_true]; assumption)]))
  intro w mean mg mb dp un gd cn cs a ccd cl outer A₀ base h₀ L m s Q E B F X N T hk hp hd hu hret
  refine wpAny_call ?_
  k_dflt (refine' code_defC ?k1 ?k2 ?k3 ?k4 ?k5 ?kA ?kF ?kK ?k6 ?k7 ?k8 ?k9 ?kB ?kD ?_ ?c2 ?c3 ?c4)
  (case kA => exact rfl); (case kF => exact rfl); (case kK => assumption)
  (case k1 => k_asm); (case k2 => k_asm); (case k3 => k_asm); (case k4 => k_asm); (case k5 => k_asm)
  (case k6 => k_is); (case k7 => k_is); (case k8 => ktr_room)
  (case k9 => exact BindsTo.of_eq rfl)
  (case kB => exact rfl); (case kD => decide +kernel); (case c2 => exact rfl); (case c3 => exact rfl); (case c4 => exact rfl)
  intro g' L' h' tk' cells' FG' F' N' Y' B' X' T' l1
  (try k_lt l1); k_cells Y'
  (try simp only [List.cons_append, List.nil_append] at N'); (try dsimp only); (try k_lift B'); (try k_fold)
  k_steps
  skip
  unfold StopHere
  have hT : ∃ l : List Value, IsTup g' 173 l.toArray ∧ IntsAre l [3, 6, 8, 11, 14, 17, 19] := ⟨_, tupK X' (by k_is), by repeat constructor⟩
  obtain ⟨l, hT, hI⟩ := hT
  refine tup_comp (by k_asm) (by k_asm) rfl (by with_unfolding_all rfl) (by decide) rfl (by decide) rfl ?hit hT (by rw [List.size_toArray, len_of hI]; decide) ?R
  case hit =>
    intro Q' hq
    k_steps
    exact hq
  case R =>
    intro g
    refine rest_le (r := (V0 - 1).fmod 19) (by simpa using hI) ?ht ?he ?hf _ 0 [] rfl rfl
    case ht =>
      intro a t I oI C oC D ys m₂ h tk E' P hC hx F9 N9 off ne hP
      k_steps
      exact hP _ _ (by k_asm) (by k_asm)
    case he =>
      intro a t I oI C oC D ys m₂ h tk E' P hC hx F9 N9 off ne hP
      k_steps
      exact hP _ _ _ (by k_asm) (by k_asm)
    case hf =>
      intro ys hy D h tk F9 N9 o1
      dsimp only
      k_steps
      all_goals cb_end hret
end Mine
namespace Mine
local macro_rules | `(tactic| walk_at "binaryOp FloorDiv int int") => `(tactic| (refine fd_rule (by decide) (by decide) ?_))
local macro_rules | `(tactic| walk_at "binaryOp Mod int int") => `(tactic| (refine fm_rule (by decide) ?_))
local macro_rules | `(tactic| walk_at "eval Call") => `(tactic| (k_here; k_dflt (refine Call_ ?_)))
local macro_rules | `(tactic| walk_at "execs cons") => `(tactic| (dsimp only; walk_at "execs cons"))
local macro_rules | `(tactic| walk_at "execs nil") => `(tactic| (dsimp only; walk_at "execs nil"))
local macro_rules | `(tactic| walk_at "call ref") => `(tactic| (k_here; (with_reducible show wpAny _ _ (call (Value.ref 199) [Value.int _ _]) _ _ _); k_dflt (refine' Claim0.use (cl_ljan _ _) ?k1 ?k2 ?k3 ?k5 ?kK ?kp ?kd ?ku ?_; (case k1 => k_asm); (case k2 => k_asm); (case k3 => k_asm); (case k5 => k_asm); (case kK => first | exact rfl | assumption); (case kp => exact True.intro); (case kd => ktr_room); (case ku => ktr_units)); intro t9 h9 tk9 F9 N9; (try dsimp only); (try k_fold)))
set_option maxHeartbeats 2000000 in
theorem cl_lgauss (V0 : Int) (T0 : Tok) :
    Claim0 2 16 206 (True) [.int V0 T0] (fun t => .int (lg V0) t) := by
  unfold Claim0
  k_fill
  k_with_none
  w_top off
  k_with "tree" => (rw [lg_def]; simp only [gx, go, gf, gm]; law_clear; simp_all; done)
  intro w mean mg mb dp un gd cn cs a ccd cl outer A₀ base h₀ L m s Q E B F X N T hk hp hd hu hret
  refine wpAny_call ?_
  k_dflt cell_enter
  k_steps
  all_goals cb_end hret
end Mine
namespace Mine
local macro_rules | `(tactic| walk_at "binaryOp FloorDiv int int") => `(tactic| (refine fd_rule (by decide) (by decide) ?_))
local macro_rules | `(tactic| walk_at "binaryOp Mod int int") => `(tactic| (refine fm_rule (by decide) ?_))
local macro_rules | `(tactic| walk_at "eval Call") => `(tactic| (k_here; k_dflt (refine Call_ ?_)))
local macro_rules | `(tactic| walk_at "execs cons") => `(tactic| (dsimp only; walk_at "execs cons"))
local macro_rules | `(tactic| walk_at "execs nil") => `(tactic| (dsimp only; walk_at "execs nil"))
local macro_rules | `(tactic| walk_at "call ref") => `(tactic| (k_here; (with_reducible show wpAny _ _ (call (Value.ref 192) [Value.int _ _]) _ _ _); k_dflt (refine' Claim0.use (cl_ltish _ _) ?k1 ?k2 ?k3 ?k5 ?kK ?kp ?kd ?ku ?_; (case k1 => k_asm); (case k2 => k_asm); (case k3 => k_asm); (case k5 => k_asm); (case kK => first | exact rfl | assumption); (case kp => exact True.intro); (case kd => ktr_room); (case ku => ktr_units)); intro t9 h9 tk9 F9 N9; (try dsimp only); (try k_fold)))
local macro_rules | `(tactic| walk_at "call ref") => `(tactic| (k_here; (with_reducible show wpAny _ _ (call (Value.ref 206) [Value.int _ _]) _ _ _); k_dflt (refine' Claim0.use (cl_lgauss _ _) ?k1 ?k2 ?k3 ?k5 ?kK ?kp ?kd ?ku ?_; (case k1 => k_asm); (case k2 => k_asm); (case k3 => k_asm); (case k5 => k_asm); (case kK => first | exact rfl | assumption); (case kp => exact True.intro); (case kd => ktr_room); (case ku => ktr_units)); intro t9 h9 tk9 F9 N9; (try dsimp only); (try k_fold)))
set_option maxHeartbeats 2000000 in
theorem cl_ldue (V0 : Int) (T0 : Tok) :
    Claim0 3 24 220 (True) [.int V0 T0] (fun t => .int (due V0) t) := by
  unfold Claim0
  k_fill
  k_with_none
  w_top off
  k_with "tree" => exact (due_def _).symm
  intro w mean mg mb dp un gd cn cs a ccd cl outer A₀ base h₀ L m s Q E B F X N T hk hp hd hu hret
  refine wpAny_call ?_
  k_dflt cell_enter
  k_steps
  all_goals cb_end hret
end Mine
namespace Mine
def gq (x : Int) : Int := if 3 * x % 7 < 3 then x + 1 else x
def gs (S : Int) : Int := gq ((S + 6480) / 25920)
theorem gq_week (W k : Int) : gq (7 * W + k) = 7 * W + gq k := by
  unfold gq
  have : 3 * (7 * W + k) % 7 = 3 * k % 7 := by omega
  rw [this]; split <;> omega
/-- a moment, told by its week, its day and its parts -/
def sw (W d p : Int) : Int := 181440 * W + 25920 * d + p
theorem gsv (W d p : Int) (h0 : 0 ≤ p) (h1 : p < 25920) : (p < 19440 ∧ gs (sw W d p) = 7 * W + gq d) ∨ (19440 ≤ p ∧ gs (sw W d p) = 7 * W + gq (d + 1)) := by
  unfold gs sw
  by_cases c : p < 19440
  · left
    have : (181440 * W + 25920 * d + p + 6480) / 25920 = 7 * W + d := by omega
    rw [this, gq_week]; exact ⟨c, rfl⟩
  · right
    have : (181440 * W + 25920 * d + p + 6480) / 25920 = 7 * W + (d + 1) := by omega
    rw [this, gq_week]; exact ⟨by omega, rfl⟩
theorem sw_12a (W d p : Int) : sw W d p + 9185196 = sw (W + 50) (d + 4) (p + 9516) := by unfold sw; omega
theorem sw_12b (W d p : Int) : sw W d p + 9185196 = sw (W + 50) (d + 5) (p - 16404) := by unfold sw; omega
theorem sw_13a (W d p : Int) : sw W d p + 9950629 = sw (W + 54) (d + 5) (p + 23269) := by unfold sw; omega
theorem sw_13b (W d p : Int) : sw W d p + 9950629 = sw (W + 54) (d + 6) (p - 2651) := by unfold sw; omega
theorem gq_0 : gq 0 = 1 := rfl
theorem gq_1 : gq 1 = 1 := rfl
theorem gq_2 : gq 2 = 2 := rfl
theorem gq_3 : gq 3 = 4 := rfl
theorem gq_4 : gq 4 = 4 := rfl
theorem gq_5 : gq 5 = 6 := rfl
theorem gq_6 : gq 6 = 6 := rfl
theorem gq_7 : gq 7 = 8 := rfl
theorem gq_8 : gq 8 = 8 := rfl
theorem gq_9 : gq 9 = 9 := rfl
theorem gq_10 : gq 10 = 11 := rfl
theorem gq_11 : gq 11 = 11 := rfl
theorem gq_12 : gq 12 = 13 := rfl
theorem gq_13 : gq 13 = 13 := rfl
theorem d7 {d : Int} (h0 : 0 ≤ d) (h1 : d < 7) : d = 0 ∨ d = 1 ∨ d = 2 ∨ d = 3 ∨ d = 4 ∨ d = 5 ∨ d = 6 := by omega
/-- the step of twelve moons: what it makes of the first days -/
theorem step12 (W d p : Int) (hd0 : 0 ≤ d) (hd1 : d < 7) (h0 : 0 ≤ p) (h1 : p < 25920) :
    gs (sw W d p + 9185196) - gs (sw W d p) ≤ 356 ∧ (gs (sw W d p + 9185196) - gs (sw W d p) = 356 ↔ p < 19440 ∧ d = 2 ∧ 9924 ≤ p) := by
  have a := gsv W d p h0 h1
  by_cases c : p < 16404
  · have b := gsv (W + 50) (d + 4) (p + 9516) (by omega) (by omega)
    rw [← sw_12a] at b
    generalize gs (sw W d p + 9185196) = X at *
    generalize gs (sw W d p) = Y at *
    rcases d7 hd0 hd1 with rfl | rfl | rfl | rfl | rfl | rfl | rfl <;>
      simp only [Int.reduceAdd, gq_0, gq_1, gq_2, gq_3, gq_4, gq_5, gq_6, gq_7, gq_8, gq_9, gq_10, gq_11, gq_12, gq_13] at a b <;> omega
  · have b := gsv (W + 50) (d + 5) (p - 16404) (by omega) (by omega)
    rw [← sw_12b] at b
    generalize gs (sw W d p + 9185196) = X at *
    generalize gs (sw W d p) = Y at *
    rcases d7 hd0 hd1 with rfl | rfl | rfl | rfl | rfl | rfl | rfl <;>
      simp only [Int.reduceAdd, gq_0, gq_1, gq_2, gq_3, gq_4, gq_5, gq_6, gq_7, gq_8, gq_9, gq_10, gq_11, gq_12, gq_13] at a b <;> omega

theorem sw_13c (W d p : Int) : sw W d p - 9950629 = sw (W - 55) (d + 2) (p - 23269) := by unfold sw; omega
theorem sw_13d (W d p : Int) : sw W d p - 9950629 = sw (W - 55) (d + 1) (p + 2651) := by unfold sw; omega
theorem step13 (W d p : Int) (hd0 : 0 ≤ d) (hd1 : d < 7) (h0 : 0 ≤ p) (h1 : p < 25920) :
    382 ≤ gs (sw W d p) - gs (sw W d p - 9950629) ∧ (gs (sw W d p) - gs (sw W d p - 9950629) = 382 ↔ p < 19440 ∧ d = 1 ∧ 16789 ≤ p) := by
  have a := gsv W d p h0 h1
  by_cases c : 23269 ≤ p
  · have b := gsv (W - 55) (d + 2) (p - 23269) (by omega) (by omega)
    rw [← sw_13c] at b
    generalize gs (sw W d p - 9950629) = X at *
    generalize gs (sw W d p) = Y at *
    rcases d7 hd0 hd1 with rfl | rfl | rfl | rfl | rfl | rfl | rfl <;>
      simp only [Int.reduceAdd, gq_0, gq_1, gq_2, gq_3, gq_4, gq_5, gq_6, gq_7, gq_8, gq_9, gq_10, gq_11, gq_12, gq_13] at a b <;> omega
  · have b := gsv (W - 55) (d + 1) (p + 2651) (by omega) (by omega)
    rw [← sw_13d] at b
    generalize gs (sw W d p - 9950629) = X at *
    generalize gs (sw W d p) = Y at *
    rcases d7 hd0 hd1 with rfl | rfl | rfl | rfl | rfl | rfl | rfl <;>
      simp only [Int.reduceAdd, gq_0, gq_1, gq_2, gq_3, gq_4, gq_5, gq_6, gq_7, gq_8, gq_9, gq_10, gq_11, gq_12, gq_13] at a b <;> omega
theorem E2 (S : Int) : 382 ≤ gs (S + 9950629) - gs S := by
  unfold gs gq
  split <;> split <;> omega
theorem sw_of (S : Int) : ∃ W d p, S = sw W d p ∧ 0 ≤ d ∧ d < 7 ∧ 0 ≤ p ∧ p < 25920 :=
  ⟨S / 181440, S % 181440 / 25920, S % 25920, by unfold sw; omega, by omega, by omega, by omega, by omega⟩
/-- law_tishri's days behind the week's first, by the moon's day and parts -/
def vv (d p : Int) (a b : Bool) : Int := if 19440 ≤ p then gq (d + 1) else if d = 2 ∧ 9924 ≤ p ∧ a = false then 4 else if d = 1 ∧ 16789 ≤ p ∧ b = true then 2 else gq d
def ltE (d p : Int) (a b : Bool) : Int := if 19440 ≤ p then d + 1 else if d % 7 = 2 ∧ 9924 ≤ p ∧ a = false then d + 1 else if d % 7 = 1 ∧ 16789 ≤ p ∧ b = true then d + 1 else d
def ltF (d : Int) : Int := if d % 7 = 0 ∨ d % 7 = 3 ∨ d % 7 = 5 then d + 1 else d
theorem ltF_week (W k : Int) : ltF (7 * W + k) = 7 * W + ltF k := by
  unfold ltF
  have : (7 * W + k) % 7 = k % 7 := by omega
  rw [this]; split <;> omega
theorem ltE_week (W k p : Int) (a b : Bool) : ltE (7 * W + k) p a b = 7 * W + ltE k p a b := by
  unfold ltE
  have : (7 * W + k) % 7 = k % 7 := by omega
  rw [this]; split
  · omega
  · split
    · omega
    · split <;> omega
theorem lt_val (W d p : Int) (a b : Bool) (hd0 : 0 ≤ d) (hd1 : d < 7) (h0 : 0 ≤ p) (h1 : p < 25920) :
    ltF (ltE (sw W d p / 25920) (sw W d p % 25920) a b) = 7 * W + vv d p a b := by
  have e1 : sw W d p / 25920 = 7 * W + d := by unfold sw; omega
  have e2 : sw W d p % 25920 = p := by unfold sw; omega
  rw [e1, e2, ltE_week, ltF_week]
  unfold vv ltE
  rcases d7 hd0 hd1 with rfl | rfl | rfl | rfl | rfl | rfl | rfl <;> cases a <;> cases b <;>
    simp only [Int.reduceAdd, Int.reduceMod, gq_0, gq_1, gq_2, gq_3, gq_4, gq_5, gq_6, gq_7, gq_8, gq_9, gq_10, gq_11, gq_12, gq_13, Int.reduceEq, true_and, false_and, and_true, and_false, if_false, reduceCtorEq] <;> (repeat' split) <;> first | rfl | omega
/-- a common year has 353, 354 or 355 days -/
theorem len12 (W d p : Int) (b a' : Bool) (hd0 : 0 ≤ d) (hd1 : d < 7) (h0 : 0 ≤ p) (h1 : p < 25920) :
    353 ≤ ltF (ltE ((sw W d p + 9185196) / 25920) ((sw W d p + 9185196) % 25920) a' false) - ltF (ltE (sw W d p / 25920) (sw W d p % 25920) false b)
    ∧ ltF (ltE ((sw W d p + 9185196) / 25920) ((sw W d p + 9185196) % 25920) a' false) - ltF (ltE (sw W d p / 25920) (sw W d p % 25920) false b) ≤ 355 := by
  rw [lt_val W d p _ _ hd0 hd1 h0 h1]
  by_cases c : p < 16404
  · rcases d7 hd0 hd1 with rfl | rfl | rfl | rfl | rfl | rfl | rfl
    · rw [show sw W 0 p + 9185196 = sw (W + 50) 4 (p + 9516) by unfold sw; omega, lt_val (W + 50) 4 (p + 9516) _ _ (by omega) (by omega) (by omega) (by omega)]
      unfold vv
      cases b <;> cases a' <;> simp only [Int.reduceAdd, Int.reduceEq, gq_0, gq_1, gq_2, gq_3, gq_4, gq_5, gq_6, gq_7, gq_8, gq_9, gq_10, gq_11, gq_12, gq_13, true_and, false_and, and_true, and_false, if_false, reduceCtorEq] <;> (repeat' split) <;> omega
    · rw [show sw W 1 p + 9185196 = sw (W + 50) 5 (p + 9516) by unfold sw; omega, lt_val (W + 50) 5 (p + 9516) _ _ (by omega) (by omega) (by omega) (by omega)]
      unfold vv
      cases b <;> cases a' <;> simp only [Int.reduceAdd, Int.reduceEq, gq_0, gq_1, gq_2, gq_3, gq_4, gq_5, gq_6, gq_7, gq_8, gq_9, gq_10, gq_11, gq_12, gq_13, true_and, false_and, and_true, and_false, if_false, reduceCtorEq] <;> (repeat' split) <;> omega
    · rw [show sw W 2 p + 9185196 = sw (W + 50) 6 (p + 9516) by unfold sw; omega, lt_val (W + 50) 6 (p + 9516) _ _ (by omega) (by omega) (by omega) (by omega)]
      unfold vv
      cases b <;> cases a' <;> simp only [Int.reduceAdd, Int.reduceEq, gq_0, gq_1, gq_2, gq_3, gq_4, gq_5, gq_6, gq_7, gq_8, gq_9, gq_10, gq_11, gq_12, gq_13, true_and, false_and, and_true, and_false, if_false, reduceCtorEq] <;> (repeat' split) <;> omega
    · rw [show sw W 3 p + 9185196 = sw (W + 51) 0 (p + 9516) by unfold sw; omega, lt_val (W + 51) 0 (p + 9516) _ _ (by omega) (by omega) (by omega) (by omega)]
      unfold vv
      cases b <;> cases a' <;> simp only [Int.reduceAdd, Int.reduceEq, gq_0, gq_1, gq_2, gq_3, gq_4, gq_5, gq_6, gq_7, gq_8, gq_9, gq_10, gq_11, gq_12, gq_13, true_and, false_and, and_true, and_false, if_false, reduceCtorEq] <;> (repeat' split) <;> omega
    · rw [show sw W 4 p + 9185196 = sw (W + 51) 1 (p + 9516) by unfold sw; omega, lt_val (W + 51) 1 (p + 9516) _ _ (by omega) (by omega) (by omega) (by omega)]
      unfold vv
      cases b <;> cases a' <;> simp only [Int.reduceAdd, Int.reduceEq, gq_0, gq_1, gq_2, gq_3, gq_4, gq_5, gq_6, gq_7, gq_8, gq_9, gq_10, gq_11, gq_12, gq_13, true_and, false_and, and_true, and_false, if_false, reduceCtorEq] <;> (repeat' split) <;> omega
    · rw [show sw W 5 p + 9185196 = sw (W + 51) 2 (p + 9516) by unfold sw; omega, lt_val (W + 51) 2 (p + 9516) _ _ (by omega) (by omega) (by omega) (by omega)]
      unfold vv
      cases b <;> cases a' <;> simp only [Int.reduceAdd, Int.reduceEq, gq_0, gq_1, gq_2, gq_3, gq_4, gq_5, gq_6, gq_7, gq_8, gq_9, gq_10, gq_11, gq_12, gq_13, true_and, false_and, and_true, and_false, if_false, reduceCtorEq] <;> (repeat' split) <;> omega
    · rw [show sw W 6 p + 9185196 = sw (W + 51) 3 (p + 9516) by unfold sw; omega, lt_val (W + 51) 3 (p + 9516) _ _ (by omega) (by omega) (by omega) (by omega)]
      unfold vv
      cases b <;> cases a' <;> simp only [Int.reduceAdd, Int.reduceEq, gq_0, gq_1, gq_2, gq_3, gq_4, gq_5, gq_6, gq_7, gq_8, gq_9, gq_10, gq_11, gq_12, gq_13, true_and, false_and, and_true, and_false, if_false, reduceCtorEq] <;> (repeat' split) <;> omega
  · rcases d7 hd0 hd1 with rfl | rfl | rfl | rfl | rfl | rfl | rfl
    · rw [show sw W 0 p + 9185196 = sw (W + 50) 5 (p - 16404) by unfold sw; omega, lt_val (W + 50) 5 (p - 16404) _ _ (by omega) (by omega) (by omega) (by omega)]
      unfold vv
      cases b <;> cases a' <;> simp only [Int.reduceAdd, Int.reduceEq, gq_0, gq_1, gq_2, gq_3, gq_4, gq_5, gq_6, gq_7, gq_8, gq_9, gq_10, gq_11, gq_12, gq_13, true_and, false_and, and_true, and_false, if_false, reduceCtorEq] <;> (repeat' split) <;> omega
    · rw [show sw W 1 p + 9185196 = sw (W + 50) 6 (p - 16404) by unfold sw; omega, lt_val (W + 50) 6 (p - 16404) _ _ (by omega) (by omega) (by omega) (by omega)]
      unfold vv
      cases b <;> cases a' <;> simp only [Int.reduceAdd, Int.reduceEq, gq_0, gq_1, gq_2, gq_3, gq_4, gq_5, gq_6, gq_7, gq_8, gq_9, gq_10, gq_11, gq_12, gq_13, true_and, false_and, and_true, and_false, if_false, reduceCtorEq] <;> (repeat' split) <;> omega
    · rw [show sw W 2 p + 9185196 = sw (W + 51) 0 (p - 16404) by unfold sw; omega, lt_val (W + 51) 0 (p - 16404) _ _ (by omega) (by omega) (by omega) (by omega)]
      unfold vv
      cases b <;> cases a' <;> simp only [Int.reduceAdd, Int.reduceEq, gq_0, gq_1, gq_2, gq_3, gq_4, gq_5, gq_6, gq_7, gq_8, gq_9, gq_10, gq_11, gq_12, gq_13, true_and, false_and, and_true, and_false, if_false, reduceCtorEq] <;> (repeat' split) <;> omega
    · rw [show sw W 3 p + 9185196 = sw (W + 51) 1 (p - 16404) by unfold sw; omega, lt_val (W + 51) 1 (p - 16404) _ _ (by omega) (by omega) (by omega) (by omega)]
      unfold vv
      cases b <;> cases a' <;> simp only [Int.reduceAdd, Int.reduceEq, gq_0, gq_1, gq_2, gq_3, gq_4, gq_5, gq_6, gq_7, gq_8, gq_9, gq_10, gq_11, gq_12, gq_13, true_and, false_and, and_true, and_false, if_false, reduceCtorEq] <;> (repeat' split) <;> omega
    · rw [show sw W 4 p + 9185196 = sw (W + 51) 2 (p - 16404) by unfold sw; omega, lt_val (W + 51) 2 (p - 16404) _ _ (by omega) (by omega) (by omega) (by omega)]
      unfold vv
      cases b <;> cases a' <;> simp only [Int.reduceAdd, Int.reduceEq, gq_0, gq_1, gq_2, gq_3, gq_4, gq_5, gq_6, gq_7, gq_8, gq_9, gq_10, gq_11, gq_12, gq_13, true_and, false_and, and_true, and_false, if_false, reduceCtorEq] <;> (repeat' split) <;> omega
    · rw [show sw W 5 p + 9185196 = sw (W + 51) 3 (p - 16404) by unfold sw; omega, lt_val (W + 51) 3 (p - 16404) _ _ (by omega) (by omega) (by omega) (by omega)]
      unfold vv
      cases b <;> cases a' <;> simp only [Int.reduceAdd, Int.reduceEq, gq_0, gq_1, gq_2, gq_3, gq_4, gq_5, gq_6, gq_7, gq_8, gq_9, gq_10, gq_11, gq_12, gq_13, true_and, false_and, and_true, and_false, if_false, reduceCtorEq] <;> (repeat' split) <;> omega
    · rw [show sw W 6 p + 9185196 = sw (W + 51) 4 (p - 16404) by unfold sw; omega, lt_val (W + 51) 4 (p - 16404) _ _ (by omega) (by omega) (by omega) (by omega)]
      unfold vv
      cases b <;> cases a' <;> simp only [Int.reduceAdd, Int.reduceEq, gq_0, gq_1, gq_2, gq_3, gq_4, gq_5, gq_6, gq_7, gq_8, gq_9, gq_10, gq_11, gq_12, gq_13, true_and, false_and, and_true, and_false, if_false, reduceCtorEq] <;> (repeat' split) <;> omega
/-- a long year has 383, 384 or 385 days -/
theorem len13 (W d p : Int) (hd0 : 0 ≤ d) (hd1 : d < 7) (h0 : 0 ≤ p) (h1 : p < 25920) :
    383 ≤ ltF (ltE ((sw W d p + 9950629) / 25920) ((sw W d p + 9950629) % 25920) false true) - ltF (ltE (sw W d p / 25920) (sw W d p % 25920) true false)
    ∧ ltF (ltE ((sw W d p + 9950629) / 25920) ((sw W d p + 9950629) % 25920) false true) - ltF (ltE (sw W d p / 25920) (sw W d p % 25920) true false) ≤ 385 := by
  rw [lt_val W d p _ _ hd0 hd1 h0 h1]
  by_cases c : p < 2651
  · rcases d7 hd0 hd1 with rfl | rfl | rfl | rfl | rfl | rfl | rfl
    · rw [show sw W 0 p + 9950629 = sw (W + 54) 5 (p + 23269) by unfold sw; omega, lt_val (W + 54) 5 (p + 23269) _ _ (by omega) (by omega) (by omega) (by omega)]
      unfold vv
      simp only [Int.reduceAdd, Int.reduceEq, gq_0, gq_1, gq_2, gq_3, gq_4, gq_5, gq_6, gq_7, gq_8, gq_9, gq_10, gq_11, gq_12, gq_13, true_and, false_and, and_true, and_false, if_false, reduceCtorEq] <;> (repeat' split) <;> omega
    · rw [show sw W 1 p + 9950629 = sw (W + 54) 6 (p + 23269) by unfold sw; omega, lt_val (W + 54) 6 (p + 23269) _ _ (by omega) (by omega) (by omega) (by omega)]
      unfold vv
      simp only [Int.reduceAdd, Int.reduceEq, gq_0, gq_1, gq_2, gq_3, gq_4, gq_5, gq_6, gq_7, gq_8, gq_9, gq_10, gq_11, gq_12, gq_13, true_and, false_and, and_true, and_false, if_false, reduceCtorEq] <;> (repeat' split) <;> omega
    · rw [show sw W 2 p + 9950629 = sw (W + 55) 0 (p + 23269) by unfold sw; omega, lt_val (W + 55) 0 (p + 23269) _ _ (by omega) (by omega) (by omega) (by omega)]
      unfold vv
      simp only [Int.reduceAdd, Int.reduceEq, gq_0, gq_1, gq_2, gq_3, gq_4, gq_5, gq_6, gq_7, gq_8, gq_9, gq_10, gq_11, gq_12, gq_13, true_and, false_and, and_true, and_false, if_false, reduceCtorEq] <;> (repeat' split) <;> omega
    · rw [show sw W 3 p + 9950629 = sw (W + 55) 1 (p + 23269) by unfold sw; omega, lt_val (W + 55) 1 (p + 23269) _ _ (by omega) (by omega) (by omega) (by omega)]
      unfold vv
      simp only [Int.reduceAdd, Int.reduceEq, gq_0, gq_1, gq_2, gq_3, gq_4, gq_5, gq_6, gq_7, gq_8, gq_9, gq_10, gq_11, gq_12, gq_13, true_and, false_and, and_true, and_false, if_false, reduceCtorEq] <;> (repeat' split) <;> omega
    · rw [show sw W 4 p + 9950629 = sw (W + 55) 2 (p + 23269) by unfold sw; omega, lt_val (W + 55) 2 (p + 23269) _ _ (by omega) (by omega) (by omega) (by omega)]
      unfold vv
      simp only [Int.reduceAdd, Int.reduceEq, gq_0, gq_1, gq_2, gq_3, gq_4, gq_5, gq_6, gq_7, gq_8, gq_9, gq_10, gq_11, gq_12, gq_13, true_and, false_and, and_true, and_false, if_false, reduceCtorEq] <;> (repeat' split) <;> omega
    · rw [show sw W 5 p + 9950629 = sw (W + 55) 3 (p + 23269) by unfold sw; omega, lt_val (W + 55) 3 (p + 23269) _ _ (by omega) (by omega) (by omega) (by omega)]
      unfold vv
      simp only [Int.reduceAdd, Int.reduceEq, gq_0, gq_1, gq_2, gq_3, gq_4, gq_5, gq_6, gq_7, gq_8, gq_9, gq_10, gq_11, gq_12, gq_13, true_and, false_and, and_true, and_false, if_false, reduceCtorEq] <;> (repeat' split) <;> omega
    · rw [show sw W 6 p + 9950629 = sw (W + 55) 4 (p + 23269) by unfold sw; omega, lt_val (W + 55) 4 (p + 23269) _ _ (by omega) (by omega) (by omega) (by omega)]
      unfold vv
      simp only [Int.reduceAdd, Int.reduceEq, gq_0, gq_1, gq_2, gq_3, gq_4, gq_5, gq_6, gq_7, gq_8, gq_9, gq_10, gq_11, gq_12, gq_13, true_and, false_and, and_true, and_false, if_false, reduceCtorEq] <;> (repeat' split) <;> omega
  · rcases d7 hd0 hd1 with rfl | rfl | rfl | rfl | rfl | rfl | rfl
    · rw [show sw W 0 p + 9950629 = sw (W + 54) 6 (p - 2651) by unfold sw; omega, lt_val (W + 54) 6 (p - 2651) _ _ (by omega) (by omega) (by omega) (by omega)]
      unfold vv
      simp only [Int.reduceAdd, Int.reduceEq, gq_0, gq_1, gq_2, gq_3, gq_4, gq_5, gq_6, gq_7, gq_8, gq_9, gq_10, gq_11, gq_12, gq_13, true_and, false_and, and_true, and_false, if_false, reduceCtorEq] <;> (repeat' split) <;> omega
    · rw [show sw W 1 p + 9950629 = sw (W + 55) 0 (p - 2651) by unfold sw; omega, lt_val (W + 55) 0 (p - 2651) _ _ (by omega) (by omega) (by omega) (by omega)]
      unfold vv
      simp only [Int.reduceAdd, Int.reduceEq, gq_0, gq_1, gq_2, gq_3, gq_4, gq_5, gq_6, gq_7, gq_8, gq_9, gq_10, gq_11, gq_12, gq_13, true_and, false_and, and_true, and_false, if_false, reduceCtorEq] <;> (repeat' split) <;> omega
    · rw [show sw W 2 p + 9950629 = sw (W + 55) 1 (p - 2651) by unfold sw; omega, lt_val (W + 55) 1 (p - 2651) _ _ (by omega) (by omega) (by omega) (by omega)]
      unfold vv
      simp only [Int.reduceAdd, Int.reduceEq, gq_0, gq_1, gq_2, gq_3, gq_4, gq_5, gq_6, gq_7, gq_8, gq_9, gq_10, gq_11, gq_12, gq_13, true_and, false_and, and_true, and_false, if_false, reduceCtorEq] <;> (repeat' split) <;> omega
    · rw [show sw W 3 p + 9950629 = sw (W + 55) 2 (p - 2651) by unfold sw; omega, lt_val (W + 55) 2 (p - 2651) _ _ (by omega) (by omega) (by omega) (by omega)]
      unfold vv
      simp only [Int.reduceAdd, Int.reduceEq, gq_0, gq_1, gq_2, gq_3, gq_4, gq_5, gq_6, gq_7, gq_8, gq_9, gq_10, gq_11, gq_12, gq_13, true_and, false_and, and_true, and_false, if_false, reduceCtorEq] <;> (repeat' split) <;> omega
    · rw [show sw W 4 p + 9950629 = sw (W + 55) 3 (p - 2651) by unfold sw; omega, lt_val (W + 55) 3 (p - 2651) _ _ (by omega) (by omega) (by omega) (by omega)]
      unfold vv
      simp only [Int.reduceAdd, Int.reduceEq, gq_0, gq_1, gq_2, gq_3, gq_4, gq_5, gq_6, gq_7, gq_8, gq_9, gq_10, gq_11, gq_12, gq_13, true_and, false_and, and_true, and_false, if_false, reduceCtorEq] <;> (repeat' split) <;> omega
    · rw [show sw W 5 p + 9950629 = sw (W + 55) 4 (p - 2651) by unfold sw; omega, lt_val (W + 55) 4 (p - 2651) _ _ (by omega) (by omega) (by omega) (by omega)]
      unfold vv
      simp only [Int.reduceAdd, Int.reduceEq, gq_0, gq_1, gq_2, gq_3, gq_4, gq_5, gq_6, gq_7, gq_8, gq_9, gq_10, gq_11, gq_12, gq_13, true_and, false_and, and_true, and_false, if_false, reduceCtorEq] <;> (repeat' split) <;> omega
    · rw [show sw W 6 p + 9950629 = sw (W + 55) 5 (p - 2651) by unfold sw; omega, lt_val (W + 55) 5 (p - 2651) _ _ (by omega) (by omega) (by omega) (by omega)]
      unfold vv
      simp only [Int.reduceAdd, Int.reduceEq, gq_0, gq_1, gq_2, gq_3, gq_4, gq_5, gq_6, gq_7, gq_8, gq_9, gq_10, gq_11, gq_12, gq_13, true_and, false_and, and_true, and_false, if_false, reduceCtorEq] <;> (repeat' split) <;> omega
end Mine
namespace Mine
theorem fd_e {a b : Int} (h : 0 ≤ b) : fd a b = a / b := by rw [fd_def, Int.fdiv_eq_ediv_of_nonneg _ h]
theorem fm_e {a b : Int} (h : 0 ≤ b) : fm a b = a % b := by rw [fm_def, Int.fmod_eq_emod_of_nonneg _ h]
theorem upn_e {r : Int} (h0 : 0 ≤ r) (h1 : r < 19) : upn r = (7 * r + 1) / 19 := by
  rw [upn_def]
  have : r = 0 ∨ r = 1 ∨ r = 2 ∨ r = 3 ∨ r = 4 ∨ r = 5 ∨ r = 6 ∨ r = 7 ∨ r = 8 ∨ r = 9 ∨ r = 10 ∨ r = 11 ∨ r = 12 ∨ r = 13 ∨ r = 14 ∨ r = 15 ∨ r = 16 ∨ r = 17 ∨ r = 18 := by omega
  rcases this with rfl | rfl | rfl | rfl | rfl | rfl | rfl | rfl | rfl | rfl | rfl | rfl | rfl | rfl | rfl | rfl | rfl | rfl | rfl <;> decide
theorem lmo_e (y : Int) : lmo y = 31524 + 765433 * ((235 * y - 234) / 19) := by
  unfold lmo
  rw [Int.fdiv_eq_ediv_of_nonneg _ (by decide), Int.fmod_eq_emod_of_nonneg _ (by decide), upn_e (by omega) (by omega)]
  have : 235 * ((y - 1) / 19) + 12 * ((y - 1) % 19) + (7 * ((y - 1) % 19) + 1) / 19 = (235 * y - 234) / 19 := by omega
  rw [this]
theorem hl_e (y : Int) : hl y = decide ((7 * y + 1) % 19 < 7) := by
  rw [hl_def, fm_e (by decide)]; congr 2; omega
theorem ll_e (y : Int) : ll y = hl y := by
  rw [ll_def, hl_e, fm_e (by decide)]
  have h0 : 0 ≤ (y - 1) % 19 := by omega
  have h1 : (y - 1) % 19 < 19 := by omega
  have : (7 * y + 1) % 19 = (7 * ((y - 1) % 19) + 8) % 19 := by omega
  rw [this]
  generalize (y - 1) % 19 = r at *
  have : r = 0 ∨ r = 1 ∨ r = 2 ∨ r = 3 ∨ r = 4 ∨ r = 5 ∨ r = 6 ∨ r = 7 ∨ r = 8 ∨ r = 9 ∨ r = 10 ∨ r = 11 ∨ r = 12 ∨ r = 13 ∨ r = 14 ∨ r = 15 ∨ r = 16 ∨ r = 17 ∨ r = 18 := by omega
  rcases this with rfl | rfl | rfl | rfl | rfl | rfl | rfl | rfl | rfl | rfl | rfl | rfl | rfl | rfl | rfl | rfl | rfl | rfl | rfl <;> decide
theorem y19 (y : Int) : ∃ k r, y = 19 * k + r ∧ (r = 0 ∨ r = 1 ∨ r = 2 ∨ r = 3 ∨ r = 4 ∨ r = 5 ∨ r = 6 ∨ r = 7 ∨ r = 8 ∨ r = 9 ∨ r = 10 ∨ r = 11 ∨ r = 12 ∨ r = 13 ∨ r = 14 ∨ r = 15 ∨ r = 16 ∨ r = 17 ∨ r = 18) :=
  ⟨y / 19, y % 19, by omega, by omega⟩
theorem lmo_12 {y : Int} (h : hl y = false) : lmo (y + 1) = lmo y + 9185196 := by
  rw [hl_e, decide_eq_false_iff_not] at h
  rw [lmo_e, lmo_e]
  obtain ⟨k, r, rfl, hr⟩ := y19 y
  rcases hr with rfl | rfl | rfl | rfl | rfl | rfl | rfl | rfl | rfl | rfl | rfl | rfl | rfl | rfl | rfl | rfl | rfl | rfl | rfl <;> omega
theorem lmo_13 {y : Int} (h : hl y = true) : lmo (y + 1) = lmo y + 9950629 := by
  rw [hl_e, decide_eq_true_eq] at h
  rw [lmo_e, lmo_e]
  obtain ⟨k, r, rfl, hr⟩ := y19 y
  rcases hr with rfl | rfl | rfl | rfl | rfl | rfl | rfl | rfl | rfl | rfl | rfl | rfl | rfl | rfl | rfl | rfl | rfl | rfl | rfl <;> omega
theorem hl_apart {y : Int} (h : hl y = true) : hl (y + 1) = false ∧ hl (y - 1) = false := by
  rw [hl_e, decide_eq_true_eq] at h
  rw [hl_e, hl_e, decide_eq_false_iff_not, decide_eq_false_iff_not]
  obtain ⟨k, r, rfl, hr⟩ := y19 y
  rcases hr with rfl | rfl | rfl | rfl | rfl | rfl | rfl | rfl | rfl | rfl | rfl | rfl | rfl | rfl | rfl | rfl | rfl | rfl | rfl <;> omega
theorem d1_e (y : Int) : d1 y = gs (lmo y) - 1 := by
  have h : d1d y + 1 = (lmo y + 6480) / 25920 := by
    unfold d1d d1m
    rw [fd_e (by decide), fd_e (by decide), lmo_e]; omega
  rw [d1_def, fm_e (by decide), h]
  unfold gs gq
  split <;> omega
theorem lt_e (y : Int) : lt y = 347997 + ltF (ltE (lmo y / 25920) (lmo y % 25920) (hl y) (hl (y - 1))) := by
  rw [lt_def, Int.fdiv_eq_ediv_of_nonneg _ (by decide), Int.fmod_eq_emod_of_nonneg _ (by decide), ll_e, ll_e]
  have e : ∀ d p a b, lt0 d p a b = ltE d p a b := by
    intro d p a b; unfold lt0 ltE; rw [fm_e (by decide)]
  rw [e]
  generalize ltE _ _ _ _ = x
  unfold lt1 ltF
  rw [fm_e (by decide)]
  congr 1
  have : ((([0, 3, 5] : List Int).any fun z => z == x % 7) = true) ↔ (x % 7 = 0 ∨ x % 7 = 3 ∨ x % 7 = 5) := by
    simp only [List.any_cons, List.any_nil, Bool.or_eq_true, beq_iff_eq, Bool.false_eq_true, or_false]
    constructor <;> (rintro (h | h | h) <;> omega)
  by_cases c : x % 7 = 0 ∨ x % 7 = 3 ∨ x % 7 = 5
  · rw [if_pos (this.mpr c), if_pos c]
  · rw [if_neg (fun h => c (this.mp h)), if_neg c]
theorem d2_e (y : Int) : d2 y = if gs (lmo (y + 1)) - gs (lmo y) = 356 then 2 else if gs (lmo y) - gs (lmo (y - 1)) = 382 then 1 else 0 := by
  rw [d2_def, d1_e, d1_e, d1_e]
  have h1 : (gs (lmo (y + 1)) - 1 - (gs (lmo y) - 1) = 356) ↔ (gs (lmo (y + 1)) - gs (lmo y) = 356) := by omega
  have h2 : (gs (lmo y) - 1 - (gs (lmo (y - 1)) - 1) = 382) ↔ (gs (lmo y) - gs (lmo (y - 1)) = 382) := by omega
  simp only [h1, h2]
/-- the year's first day: as delay_1 and delay_2 have it, and as the law has it -/
theorem tj_lt {y : Int} (hy : 1 ≤ y) : tj y = lt y := by
  obtain ⟨W, d, p, hS, hd0, hd1, h0, h1⟩ := sw_of (lmo y)
  have hv := lt_val W d p (hl y) (hl (y - 1)) hd0 hd1 h0 h1
  rw [← hS] at hv
  rw [tj_def, lt_e, hv, d1_e, d2_e]
  have hW : 0 ≤ 7 * W + d := by
    have : 0 ≤ lmo y := by rw [lmo_e]; omega
    rw [hS] at this; unfold sw at this; omega
  -- the step ahead
  have up : gs (lmo (y + 1)) - gs (lmo y) = 356 ↔ p < 19440 ∧ d = 2 ∧ 9924 ≤ p ∧ hl y = false := by
    cases c : hl y with
    | false =>
      rw [lmo_12 c, hS]
      have := (step12 W d p hd0 hd1 h0 h1).2
      rw [this]; simp
    | true =>
      rw [lmo_13 c, hS]
      have := E2 (sw W d p)
      simp only [reduceCtorEq, and_false, iff_false]; omega
  have dn : gs (lmo y) - gs (lmo (y - 1)) = 382 ↔ p < 19440 ∧ d = 1 ∧ 16789 ≤ p ∧ hl (y - 1) = true := by
    cases c : hl (y - 1) with
    | false =>
      have e := lmo_12 c
      rw [show y - 1 + 1 = y by omega] at e
      obtain ⟨W', d', p', hS', hd0', hd1', h0', h1'⟩ := sw_of (lmo (y - 1))
      have := (step12 W' d' p' hd0' hd1' h0' h1').1
      rw [← hS', ← e] at this
      simp only [reduceCtorEq, and_false, iff_false]; omega
    | true =>
      have e := lmo_13 c
      rw [show y - 1 + 1 = y by omega] at e
      have e' : lmo (y - 1) = sw W d p - 9950629 := by rw [← hS]; omega
      have := (step13 W d p hd0 hd1 h0 h1).2
      rw [e', hS, this]; simp
  have g := gsv W d p h0 h1
  rw [← hS] at g
  generalize gs (lmo (y + 1)) = X at *
  generalize gs (lmo (y - 1)) = Z at *
  generalize gs (lmo y) = Y at *
  rw [mid_def]
  simp only [up, dn]
  clear up dn hv hS
  unfold vv
  generalize hl y = a at *
  generalize hl (y - 1) = b at *
  rcases d7 hd0 hd1 with rfl | rfl | rfl | rfl | rfl | rfl | rfl <;> cases a <;> cases b <;>
    simp only [Int.reduceAdd, gq_0, gq_1, gq_2, gq_3, gq_4, gq_5, gq_6, gq_7, Int.reduceEq, true_and, false_and, and_true, and_false, if_false, reduceCtorEq] at g ⊢ <;> (repeat' split) <;> omega
theorem yd_e {y : Int} (hy : 1 ≤ y) : yd y = lt (y + 1) - lt y := by rw [yd_def, tj_lt hy, tj_lt (by omega)]
theorem yd_12 {y : Int} (hy : 1 ≤ y) (h : hl y = false) : 353 ≤ yd y ∧ yd y ≤ 355 := by
  obtain ⟨W, d, p, hS, hd0, hd1, h0, h1⟩ := sw_of (lmo y)
  rw [yd_e hy, lt_e, lt_e, lmo_12 h, show y + 1 - 1 = y by omega, h, hS]
  have := len12 W d p (hl (y - 1)) (hl (y + 1)) hd0 hd1 h0 h1
  omega
theorem yd_13 {y : Int} (hy : 1 ≤ y) (h : hl y = true) : 383 ≤ yd y ∧ yd y ≤ 385 := by
  obtain ⟨W, d, p, hS, hd0, hd1, h0, h1⟩ := sw_of (lmo y)
  rw [yd_e hy, lt_e, lt_e, lmo_13 h, show y + 1 - 1 = y by omega, h, (hl_apart h).1, (hl_apart h).2, hS]
  have := len13 W d p hd0 hd1 h0 h1
  omega
/-- 15 Nisan stands 163 days ahead of the next 1 Tishri -/
theorem hj_lt {y : Int} (hy : 1 ≤ y) : hj y = lt (y + 1) - 163 := by
  have e := yd_e hy
  have t := tj_lt hy
  have t' := tj_lt (y := y + 1) (by omega)
  have hp : 0 ≤ d1 y + d2 y + 2 := by
    have : 0 ≤ lmo y := by rw [lmo_e]; omega
    have a : 0 ≤ d1 y := by
      rw [d1_e]; unfold gs gq; split <;> omega
    have b : 0 ≤ d2 y := by rw [d2_def]; (repeat' split) <;> omega
    omega
  rw [tj_def, mid_def, if_pos (by omega)] at t
  have m7 : ml y 7 = 30 := by simp [ml_def]
  have m10 : ml y 10 = 29 := by simp [ml_def]
  have m11 : ml y 11 = 30 := by simp [ml_def]
  have m13 : ml y 13 = 29 := by simp [ml_def]
  have m8 : ml y 8 = if yd y % 10 ≠ 5 then 29 else 30 := by simp [ml_def, fm_e]
  have m9 : ml y 9 = if yd y % 10 = 3 then 29 else 30 := by simp [ml_def, fm_e]
  cases c : hl y with
  | false =>
    have m12 : ml y 12 = 29 := by simp [ml_def, c]
    have b := yd_12 hy c
    rw [← hj_b c, m7, m8, m9, m10, m11, m12, mid_def]
    have : yd y = 353 ∨ yd y = 354 ∨ yd y = 355 := by omega
    rcases this with h | h | h <;> simp only [h, Int.reduceMod, ne_eq, Int.reduceEq, not_false_eq_true, not_true_eq_false, if_true, if_false] <;> split <;> omega
  | true =>
    have m12 : ml y 12 = 30 := by simp [ml_def, c]
    have b := yd_13 hy c
    rw [← hj_a c, m7, m8, m9, m10, m11, m12, m13, mid_def]
    have : yd y = 383 ∨ yd y = 384 ∨ yd y = 385 := by omega
    rcases this with h | h | h <;> simp only [h, Int.reduceMod, ne_eq, Int.reduceEq, not_false_eq_true, not_true_eq_false, if_true, if_false] <;> split <;> omega
end Mine
namespace Mine
/-- the full moon of both rules -/
theorem wi2_gf {y : Int} (h : 1583 ≤ y) : wi2 y = gf y := by
  have hc : wc y = y / 100 := tr_ediv (by omega) (by omega)
  have hn : wn y = y % 19 := by show y - 19 * tr y 19 = _; rw [tr_ediv (by omega) (by omega)]; omega
  have h4 : tr (wc y) 4 = wc y / 4 := tr_ediv (by omega) (by omega)
  have hk : wk y ≤ wc y - 15 ∧ -1 ≤ wk y ∧ (wc y - wk y) / 3 = (13 + 8 * wc y) / 25 := by
    show tr (wc y - 17) 25 ≤ _ ∧ -1 ≤ tr (wc y - 17) 25 ∧ (wc y - tr (wc y - 17) 25) / 3 = (13 + 8 * wc y) / 25
    by_cases h17 : 0 ≤ wc y - 17
    · rw [tr_ediv h17 (by omega)]
      refine ⟨by omega, by omega, ?_⟩
      obtain ⟨k, r, e, h0, h1⟩ : ∃ k r, wc y = 17 + 25 * k + r ∧ 0 ≤ r ∧ r < 25 := ⟨(wc y - 17) / 25, (wc y - 17) % 25, by omega, by omega, by omega⟩
      rw [e]
      have e1 : (17 + 25 * k + r - 17) / 25 = k := by omega
      rw [e1]
      have : r = 0 ∨ r = 1 ∨ r = 2 ∨ r = 3 ∨ r = 4 ∨ r = 5 ∨ r = 6 ∨ r = 7 ∨ r = 8 ∨ r = 9 ∨ r = 10 ∨ r = 11 ∨ r = 12 ∨ r = 13 ∨ r = 14 ∨ r = 15 ∨ r = 16 ∨ r = 17 ∨ r = 18 ∨ r = 19 ∨ r = 20 ∨ r = 21 ∨ r = 22 ∨ r = 23 ∨ r = 24 := by omega
      rcases this with rfl | rfl | rfl | rfl | rfl | rfl | rfl | rfl | rfl | rfl | rfl | rfl | rfl | rfl | rfl | rfl | rfl | rfl | rfl | rfl | rfl | rfl | rfl | rfl | rfl <;> omega
    · have : wc y = 15 ∨ wc y = 16 := by omega
      rw [tr_def, if_pos (by omega), Int.fdiv_eq_ediv_of_nonneg _ (by omega)]
      rcases this with e | e <;> rw [e] <;> decide
  have h3 : tr (wc y - wk y) 3 = (13 + 8 * wc y) / 25 := by rw [tr_ediv (by omega) (by omega)]; exact hk.2.2
  have h1 : wi1 y = wc y - wc y / 4 - (13 + 8 * wc y) / 25 + 19 * (y % 19) + 15 := by
    show wc y - tr (wc y) 4 - tr (wc y - wk y) 3 + 19 * wn y + 15 = _
    rw [h4, h3, hn]
  have h2 : tr (wi1 y) 30 = wi1 y / 30 := tr_ediv (by omega) (by omega)
  show wi1 y - 30 * tr (wi1 y) 30 = _
  rw [h2, h1, hc]
  unfold gf gm
  rw [fm_e (by decide), fm_e (by decide), fm_e (by decide), fd_e (by decide), fd_e (by decide), fd_e (by decide)]
  generalize (13 + 8 * (y / 100)) / 25 = a
  generalize y / 100 / 4 = b
  omega
theorem gf_bnd (y : Int) : 0 ≤ gf y ∧ gf y < 30 := by
  unfold gf; rw [fm_e (by decide)]; omega
theorem wi3_e {y : Int} (h : 1583 ≤ y) : wi3 y = if gf y = 29 ∨ gf y = 28 ∧ 10 < y % 19 then gf y - 1 else gf y := by
  have hn : wn y = y % 19 := by show y - 19 * tr y 19 = _; rw [tr_ediv (by omega) (by omega)]; omega
  have hv : tr (21 - wn y) 11 = (21 - y % 19) / 11 := by rw [tr_ediv (by omega) (by omega), hn]
  have b := gf_bnd y
  have e := wi2_gf h
  have ht : tr (wi2 y) 28 = gf y / 28 := by rw [tr_ediv (by omega) (by omega), e]
  have hu : tr 29 (wi2 y + 1) = 29 / (gf y + 1) := by rw [tr_ediv (by omega) (by omega), e]
  show wi2 y - tr (wi2 y) 28 * (1 - tr (wi2 y) 28 * tr 29 (wi2 y + 1) * tr (21 - wn y) 11) = _
  rw [hv, ht, hu, e]
  clear ht hu hv hn e
  generalize gf y = i at *
  by_cases c : i < 28
  · have : i / 28 = 0 := by omega
    rw [this, if_neg (by omega)]; omega
  · by_cases c2 : i = 28
    · subst c2
      simp only [show (28 : Int) / 28 = 1 from rfl, show (29 : Int) / (28 + 1) = 1 from rfl, Int.one_mul]
      by_cases n : 10 < y % 19
      · have v : (21 - y % 19) / 11 = 0 := by omega
        rw [if_pos (by simp [n]), v]; rfl
      · have v : (21 - y % 19) / 11 = 1 := by omega
        rw [if_neg (by simp [n]), v]; rfl
    · have : i = 29 := by omega
      subst this
      simp only [show (29 : Int) / 28 = 1 from rfl, show (29 : Int) / (29 + 1) = 0 from rfl, Int.mul_zero, Int.zero_mul]
      rw [if_pos (by simp)]; rfl
theorem gm_11 {y : Int} (h : gf y = 28) : fm (11 * gm y + 11) 30 < 19 ↔ 10 < y % 19 := by
  unfold gf at h
  rw [fm_e (by decide), fm_e (by decide)] at h
  rw [fm_e (by decide)]
  have b : 0 ≤ gm y ∧ gm y < 30 := by unfold gm; rw [fm_e (by decide)]; omega
  generalize gm y = g at *
  have h0 : 0 ≤ y % 19 := by omega
  have h1 : y % 19 < 19 := by omega
  generalize y % 19 = n at *
  have : n = 0 ∨ n = 1 ∨ n = 2 ∨ n = 3 ∨ n = 4 ∨ n = 5 ∨ n = 6 ∨ n = 7 ∨ n = 8 ∨ n = 9 ∨ n = 10 ∨ n = 11 ∨ n = 12 ∨ n = 13 ∨ n = 14 ∨ n = 15 ∨ n = 16 ∨ n = 17 ∨ n = 18 := by omega
  rcases this with rfl | rfl | rfl | rfl | rfl | rfl | rfl | rfl | rfl | rfl | rfl | rfl | rfl | rfl | rfl | rfl | rfl | rfl | rfl <;> omega
theorem wl_e {y : Int} (h : 1583 ≤ y) : wl y + 6 = gf y + gx (gf y) (go y) (gm y) := by
  have b := gf_bnd y
  have e3 := wi3_e h
  have hc : wc y = y / 100 := tr_ediv (by omega) (by omega)
  have h4 : tr (wc y) 4 = y / 100 / 4 := by rw [tr_ediv (by omega) (by omega), hc]
  have hy : tr y 4 = y / 4 := tr_ediv (by omega) (by omega)
  have hj : wj1 y = y + y / 4 + wi3 y + 2 - y / 100 + y / 100 / 4 := by
    show y + tr y 4 + wi3 y + 2 - wc y + tr (wc y) 4 = _
    rw [h4, hy, hc]
  have b3 := wi3_bnd h
  have h7 : tr (wj1 y) 7 = wj1 y / 7 := tr_ediv (by omega) (by omega)
  have h2 : wj2 y = wj1 y % 7 := by show wj1 y - 7 * tr (wj1 y) 7 = _; rw [h7]; omega
  have ho : go y = (6 - (y + y / 4 + gf y + 2 - y / 100 + y / 100 / 4)) % 7 := by
    unfold go
    rw [fm_e (by decide), fm_e (by decide), fm_e (by decide), fm_e (by decide), fd_e (by decide), fd_e (by decide)]
    generalize y / 100 / 4 = c4
    generalize y / 100 = c
    generalize gf y = f
    omega
  show wi3 y - wj2 y + 6 = _
  rw [h2, hj]
  have g11 : gf y = 28 → (fm (11 * gm y + 11) 30 < 19 ↔ 10 < y % 19) := gm_11
  unfold gx
  generalize fm (11 * gm y + 11) 30 = q at *
  rw [ho]
  generalize y / 100 / 4 = c4 at *
  generalize y / 100 = c at *
  generalize y / 4 = y4 at *
  generalize gf y = f at *
  clear ho hj h2 h7 h4 hy hc
  generalize wi3 y = i3 at *
  by_cases k : f = 29 ∨ f = 28 ∧ 10 < y % 19
  · rw [if_pos k] at e3
    rw [e3]
    have k' : f = 29 ∨ f = 28 ∧ q < 19 := by
      rcases k with k | ⟨k, k2⟩
      · exact .inl k
      · exact .inr ⟨k, (g11 k).mpr k2⟩
    by_cases o : (6 - (y + y4 + f + 2 - c + c4)) % 7 = 6
    · rw [if_pos ⟨o, k'⟩]; omega
    · rw [if_neg (fun x => o x.1)]; omega
  · rw [if_neg k] at e3
    rw [e3]
    have k' : ¬ (f = 29 ∨ f = 28 ∧ q < 19) := fun x => k (by
      rcases x with x | ⟨x, x2⟩
      · exact .inl x
      · exact .inr ⟨x, (g11 x).mp x2⟩)
    rw [if_neg (fun x => k' x.2)]; omega
theorem lj_e (y : Int) : lj (y + 1) = 1721426 + 365 * y + y / 4 - y / 100 + y / 400 := by
  rw [lj_def, Int.fdiv_eq_ediv_of_nonneg _ (by decide), Int.fmod_eq_emod_of_nonneg _ (by decide), fd_e (by decide), fd_e (by decide)]
  rw [show y + 1 - 1 = y by omega]
  omega
theorem isl_e (y : Int) : (if isl y then (-1 : Int) else -2) = -2 + (y / 4 - (y - 1) / 4) - (y / 100 - (y - 1) / 100) + (y / 400 - (y - 1) / 400) := by
  rw [isl_def, fm_e (by decide), fm_e (by decide), fm_e (by decide)]
  by_cases a : y % 4 = 0
  · by_cases b : y % 100 = 0
    · by_cases c : y % 400 = 0
      · simp [a, b, c]; omega
      · simp [a, b, c]; omega
    · simp [a, b]; omega
  · simp [a]; omega
theorem gj_lg {y : Int} (h : 1583 ≤ y) : gj y (em y) (ed y) = lg y := by
  have b := wl_bnd h
  have e := wl_e h
  rw [gj_def, lg_def, lj_e, isl_e, em_def, ed_def]
  have h44 : tr (wl y + 40) 44 = (wl y + 40) / 44 := tr_ediv (by omega) (by omega)
  rw [h44]
  have h4 : tr (3 + (wl y + 40) / 44) 4 = (3 + (wl y + 40) / 44) / 4 := tr_ediv (by omega) (by omega)
  rw [h4, fd_e (by decide), fd_e (by decide), fd_e (by decide), fd_e (by decide)]
  generalize gx (gf y) (go y) (gm y) = G at *
  generalize gf y = F at *
  generalize wl y = l at *
  generalize lj y = j at *
  clear h44 h4
  by_cases c : 4 ≤ l
  · have e44 : (l + 40) / 44 = 1 := by omega
    rw [e44]; omega
  · have e44 : (l + 40) / 44 = 0 := by omega
    rw [e44]; omega
theorem ap_due' {y : Int} (h : 1583 ≤ y) : ap y = due y := by
  rw [ap_def, due_def, gj_lg h, hj_lt (by omega)]
  rw [show y + 3760 + 1 = y + 3761 by omega]; omega
end Mine
namespace Mine
/-- the law's two feasts over the naturals, for the kernel -/
def gN (n : Nat) : Nat := (15 + n / 100 + 29 * ((13 + 8 * (n / 100)) / 25) + 29 * (n / 100 / 4)) % 30
def fN (n : Nat) : Nat := (19 * (n % 19) + gN n) % 30
def oN (n : Nat) : Nat := (2 * (n % 4) + 4 * (n % 7) + 6 * fN n + (4 + n / 100 + 6 * (n / 100 / 4)) % 7) % 7
def xN (f o g : Nat) : Nat := cond (Nat.beq o 6 && (Nat.beq f 29 || (Nat.beq f 28 && Nat.ble ((11 * g + 11) % 30) 18))) 0 (o + 1)
def eN (n : Nat) : Nat := 1721140 + 365 * n + n / 4 - n / 100 + n / 400 + fN n + xN (fN n) (oN n) (gN n)
def sN (y : Nat) : Nat := 31524 + 765433 * ((235 * y - 234) / 19)
def hN (y : Nat) : Bool := Nat.ble ((7 * y + 1) % 19) 6
def tN (d p : Nat) (a b : Bool) : Nat := cond (Nat.ble 19440 p) (d + 1) (cond (Nat.beq (d % 7) 2 && Nat.ble 9924 p && !a) (d + 1) (cond (Nat.beq (d % 7) 1 && Nat.ble 16789 p && b) (d + 1) d))
def uN (d : Nat) : Nat := cond (Nat.beq (d % 7) 0 || Nat.beq (d % 7) 3 || Nat.beq (d % 7) 5) (d + 1) d
def pN (y : Nat) : Nat := 347997 + uN (tN (sN y / 25920) (sN y % 25920) (hN y) (hN (y - 1)))
theorem gN_e (n : Nat) : (gN n : Int) = gm n := by
  unfold gN gm
  rw [fm_e (by decide), fd_e (by decide), fd_e (by decide), fd_e (by decide)]
  push_cast
  generalize (13 + 8 * ((n : Int) / 100)) / 25 = a
  generalize (n : Int) / 100 / 4 = b
  generalize (n : Int) / 100 = c
  omega
theorem fN_e (n : Nat) : (fN n : Int) = gf n := by
  unfold fN gf
  rw [fm_e (by decide), fm_e (by decide), ← gN_e]
  push_cast
  rfl
theorem oN_e (n : Nat) : (oN n : Int) = go n := by
  unfold oN go
  rw [fm_e (by decide), fm_e (by decide), fm_e (by decide), fm_e (by decide), fd_e (by decide), fd_e (by decide), ← fN_e]
  push_cast
  generalize (n : Int) / 100 / 4 = b
  generalize (n : Int) / 100 = c
  omega
theorem xN_e (f o g : Nat) : (xN f o g : Int) = gx f o g + 1 := by
  unfold xN gx
  rw [fm_e (by decide)]
  have hm : (((11 * g + 11) % 30 : Nat) : Int) = (11 * (g : Int) + 11) % 30 := by push_cast; rfl
  rw [← hm]
  generalize (11 * g + 11) % 30 = q
  clear hm
  by_cases c : (o : Int) = 6 ∧ ((f : Int) = 29 ∨ (f : Int) = 28 ∧ (q : Int) < 19)
  · have : (Nat.beq o 6 && (Nat.beq f 29 || (Nat.beq f 28 && Nat.ble q 18))) = true := by
      simp only [Bool.and_eq_true, Bool.or_eq_true, Nat.beq_eq, Nat.ble_eq]; omega
    rw [if_pos c, this]; rfl
  · have : (Nat.beq o 6 && (Nat.beq f 29 || (Nat.beq f 28 && Nat.ble q 18))) = false := by
      rw [← Bool.not_eq_true]
      simp only [Bool.and_eq_true, Bool.or_eq_true, Nat.beq_eq, Nat.ble_eq]; omega
    rw [if_neg c, this]; simp
theorem eN_e (n : Nat) : (eN n : Int) = lg n := by
  unfold eN
  have hx := xN_e (fN n) (oN n) (gN n)
  rw [fN_e, oN_e, gN_e] at hx
  have hf := fN_e n
  rw [lg_def, lj_e]
  generalize xN (fN n) (oN n) (gN n) = x at *
  generalize fN n = f at *
  generalize lj n = j
  omega
theorem sN_e {y : Nat} (h : 1 ≤ y) : (sN y : Int) = lmo y := by
  rw [lmo_e]; unfold sN; omega
theorem hN_e (y : Nat) : hN y = hl y := by
  rw [hl_e]; unfold hN
  have hm : (((7 * y + 1) % 19 : Nat) : Int) = (7 * (y : Int) + 1) % 19 := by push_cast; rfl
  rw [← hm]
  generalize (7 * y + 1) % 19 = q
  clear hm
  by_cases c : (q : Int) < 7
  · rw [decide_eq_true c]; exact Nat.ble_eq.mpr (by omega)
  · rw [decide_eq_false c, ← Bool.not_eq_true, Nat.ble_eq]; omega
theorem tN_e (d p : Nat) (a b : Bool) : (tN d p a b : Int) = ltE d p a b := by
  unfold tN ltE
  by_cases c : 19440 ≤ p
  · rw [Nat.ble_eq.mpr c, if_pos (by omega)]; simp
  · have e : Nat.ble 19440 p = false := by rw [← Bool.not_eq_true, Nat.ble_eq]; exact c
    rw [e, if_neg (by omega)]
    by_cases c2 : (d : Int) % 7 = 2 ∧ 9924 ≤ (p : Int) ∧ a = false
    · have e2 : (Nat.beq (d % 7) 2 && Nat.ble 9924 p && !a) = true := by
        simp only [Bool.and_eq_true, Nat.beq_eq, Nat.ble_eq, Bool.not_eq_true']; exact ⟨⟨by omega, by omega⟩, c2.2.2⟩
      rw [if_pos c2, e2]; simp
    · have e2 : (Nat.beq (d % 7) 2 && Nat.ble 9924 p && !a) = false := by
        rw [← Bool.not_eq_true]
        simp only [Bool.and_eq_true, Nat.beq_eq, Nat.ble_eq, Bool.not_eq_true']
        exact fun x => c2 ⟨by omega, by omega, x.2⟩
      rw [if_neg c2, e2]
      by_cases c3 : (d : Int) % 7 = 1 ∧ 16789 ≤ (p : Int) ∧ b = true
      · have e3 : (Nat.beq (d % 7) 1 && Nat.ble 16789 p && b) = true := by
          simp only [Bool.and_eq_true, Nat.beq_eq, Nat.ble_eq]; exact ⟨⟨by omega, by omega⟩, c3.2.2⟩
        rw [if_pos c3, e3]; simp
      · have e3 : (Nat.beq (d % 7) 1 && Nat.ble 16789 p && b) = false := by
          rw [← Bool.not_eq_true]
          simp only [Bool.and_eq_true, Nat.beq_eq, Nat.ble_eq]
          exact fun x => c3 ⟨by omega, by omega, x.2⟩
        rw [if_neg c3, e3]; simp
theorem uN_e (d : Nat) : (uN d : Int) = ltF d := by
  unfold uN ltF
  by_cases c : (d : Int) % 7 = 0 ∨ (d : Int) % 7 = 3 ∨ (d : Int) % 7 = 5
  · have e : (Nat.beq (d % 7) 0 || Nat.beq (d % 7) 3 || Nat.beq (d % 7) 5) = true := by
      simp only [Bool.or_eq_true, Nat.beq_eq]; omega
    rw [if_pos c, e]; simp
  · have e : (Nat.beq (d % 7) 0 || Nat.beq (d % 7) 3 || Nat.beq (d % 7) 5) = false := by
      rw [← Bool.not_eq_true]; simp only [Bool.or_eq_true, Nat.beq_eq]; omega
    rw [if_neg c, e]; simp
theorem pN_e {y : Nat} (h : 2 ≤ y) : (pN y : Int) = lt y := by
  unfold pN
  have e : ((y - 1 : Nat) : Int) = (y : Int) - 1 := by omega
  have s := sN_e (y := y) (by omega)
  rw [Int.natCast_add, uN_e, tN_e, lt_e, hN_e, hN_e, e, ← s, Int.natCast_ediv, Int.natCast_emod]
  rfl
/-- how far apart: as the kernel counts it -/
theorem due_e (n : Nat) : due n = (eN n : Int) - (pN (n + 3761) : Int) + 163 := by
  rw [due_def, eN_e, pN_e (by omega)]; rfl
/-- k years from n on: Easter stands ahead of Passover -/
def aheadN (k n : Nat) : Bool := (List.range' n k).all fun m => Nat.ble (eN m + 164) (pN (m + 3761))
theorem aheadN_e (k n : Nat) (h : aheadN k n = true) (m : Nat) (h0 : n ≤ m) (h1 : m < n + k) : due m < 0 := by
  have x := List.all_eq_true.mp h m (List.mem_range'_1.mpr ⟨h0, h1⟩)
  rw [Nat.ble_eq] at x
  rw [due_e]; omega
/-- k years from n on: the number is one of the twelve -/
def oneN (n : Nat) : Bool :=
  let e := eN n + 163 + 30
  let p := pN (n + 3761)
  Nat.beq e p || Nat.beq e (p + 2) || Nat.beq e (p + 3) || Nat.beq e (p + 5) || Nat.beq e (p + 7) || Nat.beq e (p + 28) || Nat.beq e (p + 30) || Nat.beq e (p + 31) || Nat.beq e (p + 33) || Nat.beq e (p + 35) || Nat.beq e (p + 37) || Nat.beq e (p + 38)
def allN (k n : Nat) : Bool := (List.range' n k).all oneN
theorem oneN_e {n : Nat} (h : oneN n = true) : (([-30, -28, -27, -25, -23, -2, 0, 1, 3, 5, 7, 8] : List Int).any (· == due n)) = true := by
  unfold oneN at h
  simp only [Bool.or_eq_true, Nat.beq_eq] at h
  simp only [List.any_cons, List.any_nil, Bool.or_eq_true, beq_iff_eq, Bool.false_eq_true, or_false]
  rw [due_e]
  omega
theorem allN_e (k n : Nat) (h : allN k n = true) (m : Nat) (h0 : n ≤ m) (h1 : m < n + k) : oneN m = true :=
  List.all_eq_true.mp h m (List.mem_range'_1.mpr ⟨h0, h1⟩)
end Mine
namespace Mine
theorem ahead0 : aheadN 260 7486 = true := by decide +kernel
theorem ahead1 : aheadN 260 7746 = true := by decide +kernel
theorem ahead2 : aheadN 260 8006 = true := by decide +kernel
theorem ahead3 : aheadN 260 8266 = true := by decide +kernel
theorem ahead4 : aheadN 260 8526 = true := by decide +kernel
theorem ahead5 : aheadN 260 8786 = true := by decide +kernel
theorem ahead6 : aheadN 254 9046 = true := by decide +kernel
theorem twelve0 : allN 240 1583 = true := by decide +kernel
theorem twelve1 : allN 240 1823 = true := by decide +kernel
theorem twelve2 : allN 240 2063 = true := by decide +kernel
theorem twelve3 : allN 240 2303 = true := by decide +kernel
theorem twelve4 : allN 240 2543 = true := by decide +kernel
theorem twelve5 : allN 217 2783 = true := by decide +kernel
theorem due_near {m : Nat} (h0 : 7486 ≤ m) (h1 : m < 9300) : due m < 0 := by
  by_cases c0 : m < 7746
  · exact aheadN_e _ _ ahead0 m (by omega) (by omega)
  by_cases c1 : m < 8006
  · exact aheadN_e _ _ ahead1 m (by omega) (by omega)
  by_cases c2 : m < 8266
  · exact aheadN_e _ _ ahead2 m (by omega) (by omega)
  by_cases c3 : m < 8526
  · exact aheadN_e _ _ ahead3 m (by omega) (by omega)
  by_cases c4 : m < 8786
  · exact aheadN_e _ _ ahead4 m (by omega) (by omega)
  by_cases c5 : m < 9046
  · exact aheadN_e _ _ ahead5 m (by omega) (by omega)
  exact aheadN_e _ _ ahead6 m (by omega) (by omega)
theorem one_near {m : Nat} (h0 : 1583 ≤ m) (h1 : m < 3000) : oneN m = true := by
  by_cases c0 : m < 1823
  · exact allN_e _ _ twelve0 m (by omega) (by omega)
  by_cases c1 : m < 2063
  · exact allN_e _ _ twelve1 m (by omega) (by omega)
  by_cases c2 : m < 2303
  · exact allN_e _ _ twelve2 m (by omega) (by omega)
  by_cases c3 : m < 2543
  · exact allN_e _ _ twelve3 m (by omega) (by omega)
  by_cases c4 : m < 2783
  · exact allN_e _ _ twelve4 m (by omega) (by omega)
  exact allN_e _ _ twelve5 m (by omega) (by omega)
/-- the Hebrew year is the longer one: past 9300 Easter's last day stands ahead of Passover's first -/
theorem due_far {y : Int} (h : 9300 ≤ y) : due y < 0 := by
  have b := wl_bnd (y := y) (by omega)
  have e := wl_e (y := y) (by omega)
  have hl1 : lg y ≤ 1721426 + 365 * y + y / 4 - y / 100 + y / 400 - 285 + 34 := by
    rw [lg_def, lj_e]
    generalize gx (gf y) (go y) (gm y) = G at *
    omega
  have hl2 : 347997 + lmo (y + 3761) / 25920 ≤ lt (y + 3761) := by
    rw [lt_e]
    have h1 : ∀ d, d ≤ ltF d := fun d => by unfold ltF; split <;> omega
    have h2 : ∀ d p a b, d ≤ ltE d p a b := fun d p a b => by unfold ltE; (repeat' split) <;> omega
    have := h1 (ltE (lmo (y + 3761) / 25920) (lmo (y + 3761) % 25920) (hl (y + 3761)) (hl (y + 3761 - 1)))
    have := h2 (lmo (y + 3761) / 25920) (lmo (y + 3761) % 25920) (hl (y + 3761)) (hl (y + 3761 - 1))
    omega
  rw [lmo_e] at hl2
  rw [due_def]
  omega
theorem ap_due {y : Int} (h : 1583 ≤ y) : ap y = due y := ap_due' h
theorem ap_1586 : 0 ≤ ap 1586 := by
  rw [ap_due (by decide), show (1586 : Int) = ((1586 : Nat) : Int) from rfl, due_e, show eN 1586 = 2300430 by decide +kernel, show pN (1586 + 3761) = 2300590 by decide +kernel]; decide
theorem ap_1587 : ap 1587 < 0 := by
  rw [ap_due (by decide), show (1587 : Int) = ((1587 : Nat) : Int) from rfl, due_e, show eN 1587 = 2300787 by decide +kernel, show pN (1587 + 3761) = 2300975 by decide +kernel]; decide
theorem ap_7485 : ap 7485 = 0 := by
  rw [ap_due (by decide), show (7485 : Int) = ((7485 : Nat) : Int) from rfl, due_e, show eN 7485 = 4455009 by decide +kernel, show pN (7485 + 3761) = 4455172 by decide +kernel]; decide
theorem ap_neg {y : Int} (h : 7486 ≤ y) : ap y < 0 := by
  rw [ap_due (by omega)]
  by_cases c : y < 9300
  · obtain ⟨m, rfl⟩ : ∃ m : Nat, y = m := ⟨y.toNat, by omega⟩
    exact due_near (by omega) (by omega)
  · exact due_far (by omega)
theorem ap_in {y : Int} (h : 1583 ≤ y) (k : y ≤ 2999) : (([-30, -28, -27, -25, -23, -2, 0, 1, 3, 5, 7, 8] : List Int).any (· == ap y)) = true := by
  rw [ap_due (by omega)]
  obtain ⟨m, rfl⟩ : ∃ m : Nat, y = m := ⟨y.toNat, by omega⟩
  exact oneN_e (one_near (by omega) (by omega))
end Mine
namespace Mine
section
variable {prog : Program} {w : World} {A : Around} {E : Value → Shared → Prop} {s : Shared} {t u : Tok} {Q : Value → Shared → Prop}
theorem lt_1586 (h : Q (.bool false) s) : wpAny (model prog w) A (compareOp .Lt (.int (ap 1586) t) (.int 0 u)) Q E s :=
  lt_int (by rw [decide_eq_false (Int.not_lt.mpr ap_1586)]; exact h)
theorem ge_1587 (h : Q (.bool false) s) : wpAny (model prog w) A (compareOp .GtE (.int (ap 1587) t) (.int 0 u)) Q E s :=
  ge_int (by rw [decide_eq_false (Int.not_le.mpr ap_1587)]; exact h)
theorem ne_7485 (h : Q (.bool false) s) : wpAny (model prog w) A (compareOp .NotEq (.int (ap 7485) t) (.int 0 u)) Q E s :=
  ne_int (by rw [ap_7485]; exact h)
theorem ge_neg {y : Int} (hy : 7486 ≤ y) (h : Q (.bool false) s) : wpAny (model prog w) A (compareOp .GtE (.int (ap y) t) (.int 0 u)) Q E s :=
  ge_int (by rw [decide_eq_false (Int.not_le.mpr (ap_neg hy))]; exact h)
theorem eq_due {y : Int} (hy : 1583 ≤ y) (h : Q (.bool true) s) : wpAny (model prog w) A (compareOp .Eq (.int (ap y) t) (.int (due y) u)) Q E s :=
  eq_int (by rw [ap_due hy, beq_self_eq_true]; exact h)
theorem notin_set {a : Addr} {items : Array Value} {y : Int} (ht : IsTup s.heap a items) (hi : IntsAre items.toList [-30, -28, -27, -25, -23, -2, 0, 1, 3, 5, 7, 8])
    (h1 : 1583 ≤ y) (h2 : y ≤ 2999) (h : Q (.bool false) s) : wpAny (model prog w) A (compareOp .NotIn (.int (ap y) u) (.ref a)) Q E s :=
  notin_tuple_ints ht hi (by rw [ap_in h1 h2]; exact h)
theorem abs3_rule {n : Int} (h : ∀ z : Int, 0 ≤ z → Q (.int z s.toks) { s with toks := s.toks + 1 }) : wpAny (model prog w) A (binaryOp .FloorDiv (.int (if n < 0 then -n else n) t) (.int 3 u)) Q E s :=
  floordiv_int (by decide) (h _ (by rw [Int.fdiv_eq_ediv_of_nonneg _ (by decide)]; split <;> omega)) (Or.inl (PyProof.noPylong_small (by decide)))
theorem emod_rule {a b : Int} (h0 : 0 < b) (h : Q (.int (a % b) s.toks) { s with toks := s.toks + 1 }) : wpAny (model prog w) A (binaryOp .Mod (.int a t) (.int b u)) Q E s :=
  mod_int' (by omega) (by rw [Int.fmod_eq_emod_of_nonneg _ (by omega)]; exact h)
end
end Mine
local macro_rules | `(tactic| walk_at "binaryOp FloorDiv int int") => `(tactic| (refine Mine.abs3_rule ?_; intro z9 hz9))
local macro_rules | `(tactic| walk_at "binaryOp Mod int int") => `(tactic| (refine Mine.emod_rule (by decide) ?_))
local macro_rules | `(tactic| walk_at "execs cons") => `(tactic| (dsimp only; walk_at "execs cons"))
local macro_rules | `(tactic| walk_at "execs nil") => `(tactic| (dsimp only; walk_at "execs nil"))
local macro_rules | `(tactic| walk_at "call ref") => `(tactic| (k_here; (with_reducible show wpAny _ _ (call (Value.ref 213) [Value.int _ _]) _ _ _); k_dflt (refine' Mine.Claim0.use (Mine.cl_apart _ _) ?k1 ?k2 ?k3 ?k5 ?kK ?kp ?kd ?ku ?_; (case k1 => k_asm); (case k2 => k_asm); (case k3 => k_asm); (case k5 => k_asm); (case kK => first | exact rfl | assumption); (case kp => omega); (case kd => ktr_room); (case ku => ktr_units)); intro t9 h9 tk9 F9 N9; (try dsimp only); (try k_fold)))
local macro_rules | `(tactic| walk_at "call ref") => `(tactic| (k_here; (with_reducible show wpAny _ _ (call (Value.ref 220) [Value.int _ _]) _ _ _); k_dflt (refine' Mine.Claim0.use (Mine.cl_ldue _ _) ?k1 ?k2 ?k3 ?k5 ?kK ?kp ?kd ?ku ?_; (case k1 => k_asm); (case k2 => k_asm); (case k3 => k_asm); (case k5 => k_asm); (case kK => first | exact rfl | assumption); (case kp => exact True.intro); (case kd => ktr_room); (case ku => ktr_units)); intro t9 h9 tk9 F9 N9; (try dsimp only); (try k_fold)))
local macro_rules | `(tactic| walk_at "compareOp Lt int int") => `(tactic| (refine Mine.lt_1586 ?_))
local macro_rules | `(tactic| walk_at "compareOp GtE int int") => `(tactic| (first | (refine Mine.ge_1587 ?_) | (refine Mine.ge_neg (by omega) ?_)))
local macro_rules | `(tactic| walk_at "compareOp NotEq int int") => `(tactic| (refine Mine.ne_7485 ?_))
local macro_rules | `(tactic| walk_at "compareOp Eq int int") => `(tactic| (refine Mine.eq_due (by omega) ?_))
local macro_rules | `(tactic| walk_at "compareOp NotIn int ref") => `(tactic| (k_here; k_dflt (refine Mine.notin_set (News.isTup (by k_asm) (by k_mem)) (by repeat constructor) (by omega) (by omega) ?_)))
set_option maxRecDepth 100000 in
set_option maxHeartbeats 8000000 in
theorem PySem.Challenge.cw_aq6013_01_holds : PySem.Challenge.rw_aq6013_01.Holds := by
  refine Mine.hd ?_
  k_with_none
  k_go0
  (all_goals try k_fold)
  k_steps
  (all_goals (try k_data)); all_goals w_report
