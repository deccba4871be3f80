import PyProof.Rows.All
import Wide.All
import OpenK.AllK
import Wide.FinOn
import Lean
import PySem.Challenge.RW_sr0028_01
set_option Elab.async false
set_option compiler.extract_closed false
open PySem PySem.W PyProof.Rows
namespace Mine
set_option maxRecDepth 100000 in
set_option maxHeartbeats 8000000 in
open_top hd for PySem.Challenge.rw_sr0028_01
end Mine

open PySem PySem.W PySem.Calls PyProof.Rows
namespace Mine

/-- what a call of a def of the text does: from any caller's frame whose ledger is `news` -/
def Cl (w : World) (k : Nat) (f : Addr) (vs : List Value) (news : List (Addr × Obj)) (Post : Value → List (Addr × Obj) → Prop) : Prop :=
  ∀ (mean : ExcName → Option Value) (mg mb : Str → Option Value)
   (dp un : Nat) (gd : Option (List Code)) (cn : Str) (cs : Scope) (a : Addr) (ccd : Value) (cl : List (Str × Addr)) (outer : List Env) (A₀ : Around) (base h₀ : Heap) (L : Addr) (m : Str → Option Value) (s : Shared) (Q E : Value → Shared → Prop),
   Below A₀ base outer h₀ → Fr h₀ L s.heap m → (hd.heap_39 w.params).In h₀ → News h₀ L s.heap news →
   Top hd.view_39 (looseW hd.view_39 ["insort_left", "bisect_left"]) mean mg mb h₀ → cs.kind = .function → dp + k < recursionLimit → un + 8 * k < cLine →
   (∀ v news' h' tk', Fr h₀ L h' m → News h₀ L h' news' → Post v news' → Q v { s with heap := h', toks := tk' }) →
   wpAny (model PySem.Challenge.rw_sr0028_01.row.prog w) (ktrTop dp un gd cn cs L a ccd cl outer) (call (.ref f) vs) Q E s

abbrev tup3 (a b c : Value) (n : Nat) : Obj := { cls := .type "tuple", data := .seq #[a, b, c] n }

/-- a fresh tuple of three floats on top of the old ledger -/
def Tup3 (news : List (Addr × Obj)) (x y z : UInt64) (v : Value) (news' : List (Addr × Obj)) : Prop :=
  ∃ (D : Addr) (t1 t2 t3 : Tok) (n : Nat), v = .ref D ∧ news' = (D, tup3 (.float x t1) (.float y t2) (.float z t3) n) :: news ∧ ∀ p ∈ news, p.1 < D
theorem Tup3.mk {news : List (Addr × Obj)} {a b c : UInt64} {D : Addr} {x y z : UInt64} {t1 t2 t3 : Tok} {n : Nat} (e : (a, b, c) = (x, y, z)) (hl : ∀ p ∈ news, p.1 < D) :
    Tup3 news a b c (.ref D) ((D, tup3 (.float x t1) (.float y t2) (.float z t3) n) :: news) := by cases e; exact ⟨D, t1, t2, t3, n, rfl, rfl, hl⟩

abbrev hsvI (h : UInt64) : Int := Flt.toInt Float64.truncOf (Float64.mul h 4618441417868443648)
abbrev hsvF (h : UInt64) : UInt64 := Float64.sub (Float64.mul h 4618441417868443648) (Float64.ofInt (hsvI h))
abbrev hsvP (s v : UInt64) : UInt64 := Float64.mul v (Float64.sub 4607182418800017408 s)
abbrev hsvQ (h s v : UInt64) : UInt64 := Float64.mul v (Float64.sub 4607182418800017408 (Float64.mul s (hsvF h)))
abbrev hsvT (h s v : UInt64) : UInt64 := Float64.mul v (Float64.sub 4607182418800017408 (Float64.mul s (Float64.sub 4607182418800017408 (hsvF h))))
def hsvR (h s v : UInt64) : UInt64 × UInt64 × UInt64 :=
  if (hsvI h).fmod 6 = 0 then (v, hsvT h s v, hsvP s v)
  else if (hsvI h).fmod 6 = 1 then (hsvQ h s v, v, hsvP s v)
  else if (hsvI h).fmod 6 = 2 then (hsvP s v, v, hsvT h s v)
  else if (hsvI h).fmod 6 = 3 then (hsvP s v, hsvQ h s v, v)
  else if (hsvI h).fmod 6 = 4 then (hsvT h s v, hsvP s v, v)
  else (v, hsvP s v, hsvQ h s v)
structure HsvOk (h s : UInt64) : Prop where
  a : (Float64.cmp s 0 == some Ordering.eq) = false
  b : Float64.isFinite (Float64.mul h 4618441417868443648) = true
  c : (hsvI h).natAbs < 2 ^ 1024 - 2 ^ 970
section
variable {h s v : UInt64}
theorem hsvR0 (e : (hsvI h).fmod 6 = 0) : hsvR h s v = (v, hsvT h s v, hsvP s v) := by unfold hsvR; rw [if_pos e]
theorem hsvR1 (e : (hsvI h).fmod 6 = 1) : hsvR h s v = (hsvQ h s v, v, hsvP s v) := by unfold hsvR; rw [if_neg (by rw [e]; decide), if_pos e]
theorem hsvR2 (e : (hsvI h).fmod 6 = 2) : hsvR h s v = (hsvP s v, v, hsvT h s v) := by unfold hsvR; rw [if_neg (by rw [e]; decide), if_neg (by rw [e]; decide), if_pos e]
theorem hsvR3 (e : (hsvI h).fmod 6 = 3) : hsvR h s v = (hsvP s v, hsvQ h s v, v) := by unfold hsvR; rw [if_neg (by rw [e]; decide), if_neg (by rw [e]; decide), if_neg (by rw [e]; decide), if_pos e]
theorem hsvR4 (e : (hsvI h).fmod 6 = 4) : hsvR h s v = (hsvT h s v, hsvP s v, v) := by unfold hsvR; rw [if_neg (by rw [e]; decide), if_neg (by rw [e]; decide), if_neg (by rw [e]; decide), if_neg (by rw [e]; decide), if_pos e]
theorem hsvR5 (e : (hsvI h).fmod 6 = 5) : hsvR h s v = (v, hsvP s v, hsvQ h s v) := by unfold hsvR; rw [if_neg (by rw [e]; decide), if_neg (by rw [e]; decide), if_neg (by rw [e]; decide), if_neg (by rw [e]; decide), if_neg (by rw [e]; decide)]
theorem no_six (n : Int) (h0 : n.fmod 6 ≠ 0) (h1 : n.fmod 6 ≠ 1) (h2 : n.fmod 6 ≠ 2) (h3 : n.fmod 6 ≠ 3) (h4 : n.fmod 6 ≠ 4) (h5 : n.fmod 6 ≠ 5) : False := by
  have a := Int.fmod_nonneg_of_pos n (b := 6) (by decide)
  have b := Int.fmod_lt_of_pos n (b := 6) (by decide)
  omega
end

set_option maxRecDepth 100000 in
set_option maxHeartbeats 8000000 in
theorem hsv_call {w : World} {news : List (Addr × Obj)} {x y z r g b : UInt64} {t1 t2 t3 : Tok} (ok : HsvOk x y) (er : hsvR x y z = (r, g, b)) :
   Cl w 3 53 [.float x t1, .float y t2, .float z t3] news (Tup3 news r g b) := by
  unfold Cl
  w_top off
  k_fill
  intro mean mg mb dp un gd cn cs a ccd cl outer A₀ base h₀ L m s Q E B F X N T hk hd hu hret
  obtain ⟨ok1, ok2, ok3⟩ := ok
  refine wpAny_call ?_
  k_dflt ktr_enter
  k_steps
  all_goals first
    | exact absurd ok3 (Nat.not_lt.mpr (by assumption))
    | exact (no_six _ (by assumption) (by assumption) (by assumption) (by assumption) (by assumption) (by assumption)).elim
    | (refine' hret _ _ _ _ (by assumption) (by assumption) (Tup3.mk ?_ (by assumption))
       refine er.symm.trans ?_
       first
         | exact hsvR0 (by assumption)
         | exact hsvR1 (by assumption)
         | exact hsvR2 (by assumption)
         | exact hsvR3 (by assumption)
         | exact hsvR4 (by assumption)
         | exact hsvR5 (by assumption))
end Mine

open PySem PySem.W PySem.Calls PyProof.Rows PySem.Flt
namespace Mine

def ltB (x y : UInt64) : Bool := Float64.cmp x y == some Ordering.lt
def max3 (x y z : UInt64) : UInt64 := if ltB (if ltB x y then y else x) z then z else if ltB x y then y else x
def min3 (x y z : UInt64) : UInt64 := if ltB z (if ltB y x then y else x) then z else if ltB y x then y else x

section
variable {prog : Program} {w : World} {A : Around} {E : Value → Shared → Prop} {s : Shared} {Q : Value → Shared → Prop} {x y z : UInt64} {t u v : Tok} {h₀ : Heap} {L : Addr} {m : Str → Option Value} {news : List (Addr × Obj)}

theorem nums3 : ∀ q ∈ #[Value.float x t, Value.float y u, Value.float z v], NumV q := by
  intro q hq
  simp only [List.mem_toArray, List.mem_cons, List.not_mem_nil, or_false] at hq
  rcases hq with rfl | rfl | rfl
  · exact .float x t
  · exact .float y u
  · exact .float z v

theorem max_three_ff (hh : A.handled = none) (F : Fr h₀ L s.heap m) (N : News h₀ L s.heap news)
    (h : ∀ h' tk r, Fr h₀ L h' m → News h₀ L h' news → Q (.float (max3 x y z) r) { s with heap := h', toks := tk }) :
    wpAny (model prog w) A (call (.builtin "max") [.float x t, .float y u, .float z v]) Q E s := by
  have hT : (s.heap.push { cls := .type "tuple", data := .seq #[.float x t, .float y u, .float z v] }).IsTuple s.heap.objs.size #[.float x t, .float y u, .float z v] := ⟨_, Heap.get?_push_size _ rfl, rfl, 0, rfl⟩
  refine call_max_three (wpAny_pyIter_tuple hT ?_)
  have hsz : (s.heap.push { cls := .type "tuple", data := .seq #[.float x t, .float y u, .float z v] }).objs.size = s.heap.objs.size + 1 := Heap.size_push ..
  refine ⟨_, [_, s.heap.objs.size], [_], _, _, _, _, rfl, Walks.tuple (A := A.in1) hh _ s.heap.objs.size (by rw [hsz]; exact Nat.ne_of_lt (Nat.lt_succ_self _)) #[.float x t, .float y u, .float z v],
    ⟨⟨_, Heap.get?_push_size _ rfl, rfl, rfl⟩, hT.push _⟩, fun c hc => ?_, by simp, cmpOf_gt _ nums3, fun q h' tk hP hk => ?_⟩
  · show c < ((s.heap.push _).push _).objs.size
    rw [Heap.size_push, hsz]
    rcases List.mem_cons.mp hc with rfl | hc
    · rw [hsz]; exact Nat.lt_succ_self _
    · rcases List.mem_cons.mp hc with rfl | hc
      · exact Nat.lt_succ_of_lt (Nat.lt_succ_self _)
      · cases hc
  · have hold : ∀ c o, s.heap.get? c = some o → h'.get? c = some o := fun c o e => by
      refine hk c o (fun hm => ?_) (Heap.get?_push_of_some _ (Heap.get?_push_of_some _ e))
      rcases List.mem_cons.mp hm with e1 | hm
      · have := Heap.lt_size e; rw [e1, hsz] at this; exact Nat.lt_irrefl _ (Nat.lt_of_succ_lt this)
      · cases hm
    have hq : ∃ r, q = .float (max3 x y z) r := by
      have e1 : ltV (.float x t) (.float y u) = ltB x y := rfl
      have e2 : ltV (.float y u) (.float z v) = ltB y z := rfl
      have e3 : ltV (.float x t) (.float z v) = ltB x z := rfl
      cases c1 : ltB x y <;> cases c2 : ltB y z <;> cases c3 : ltB x z <;> simp [argBest, e1, e2, e3, c1, c2, c3] at hP <;> simp [max3, c1, c2, c3, ← hP]
    obtain ⟨r, rfl⟩ := hq
    exact h h' tk r (F.grownK hold) (N.grown hold)

theorem min_three_ff (hh : A.handled = none) (F : Fr h₀ L s.heap m) (N : News h₀ L s.heap news)
    (h : ∀ h' tk r, Fr h₀ L h' m → News h₀ L h' news → Q (.float (min3 x y z) r) { s with heap := h', toks := tk }) :
    wpAny (model prog w) A (call (.builtin "min") [.float x t, .float y u, .float z v]) Q E s := by
  have hT : (s.heap.push { cls := .type "tuple", data := .seq #[.float x t, .float y u, .float z v] }).IsTuple s.heap.objs.size #[.float x t, .float y u, .float z v] := ⟨_, Heap.get?_push_size _ rfl, rfl, 0, rfl⟩
  refine call_min_three (wpAny_pyIter_tuple hT ?_)
  have hsz : (s.heap.push { cls := .type "tuple", data := .seq #[.float x t, .float y u, .float z v] }).objs.size = s.heap.objs.size + 1 := Heap.size_push ..
  refine ⟨_, [_, s.heap.objs.size], [_], _, _, _, _, rfl, Walks.tuple (A := A.in1) hh _ s.heap.objs.size (by rw [hsz]; exact Nat.ne_of_lt (Nat.lt_succ_self _)) #[.float x t, .float y u, .float z v],
    ⟨⟨_, Heap.get?_push_size _ rfl, rfl, rfl⟩, hT.push _⟩, fun c hc => ?_, by simp, cmpOf_lt _ nums3, fun q h' tk hP hk => ?_⟩
  · show c < ((s.heap.push _).push _).objs.size
    rw [Heap.size_push, hsz]
    rcases List.mem_cons.mp hc with rfl | hc
    · rw [hsz]; exact Nat.lt_succ_self _
    · rcases List.mem_cons.mp hc with rfl | hc
      · exact Nat.lt_succ_of_lt (Nat.lt_succ_self _)
      · cases hc
  · have hold : ∀ c o, s.heap.get? c = some o → h'.get? c = some o := fun c o e => by
      refine hk c o (fun hm => ?_) (Heap.get?_push_of_some _ (Heap.get?_push_of_some _ e))
      rcases List.mem_cons.mp hm with e1 | hm
      · have := Heap.lt_size e; rw [e1, hsz] at this; exact Nat.lt_irrefl _ (Nat.lt_of_succ_lt this)
      · cases hm
    have hq : ∃ r, q = .float (min3 x y z) r := by
      have e1 : ltV (.float y u) (.float x t) = ltB y x := rfl
      have e2 : ltV (.float z v) (.float y u) = ltB z y := rfl
      have e3 : ltV (.float z v) (.float x t) = ltB z x := rfl
      cases c1 : ltB y x <;> cases c2 : ltB z y <;> cases c3 : ltB z x <;> simp [argBest, e1, e2, e3, c1, c2, c3] at hP <;> simp [min3, c1, c2, c3, ← hP]
    obtain ⟨r, rfl⟩ := hq
    exact h h' tk r (F.grownK hold) (N.grown hold)
end
end Mine

open PySem PySem.W PySem.Calls PyProof.Rows
namespace Mine
local macro_rules | `(tactic| walk_at "call builtin:max") => `(tactic| ((with_reducible show wpAny _ _ (call _ [Value.float _ _, Value.float _ _, Value.float _ _]) _ _ _); (rename News _ _ _ _ => N'); (rename Fr _ _ _ _ => F'); refine max_three_ff rfl F' N' ?_; clear N'; intro _ _ _ _ _))
local macro_rules | `(tactic| walk_at "call builtin:min") => `(tactic| ((with_reducible show wpAny _ _ (call _ [Value.float _ _, Value.float _ _, Value.float _ _]) _ _ _); (rename News _ _ _ _ => N'); (rename Fr _ _ _ _ => F'); refine min_three_ff rfl F' N' ?_; clear N'; intro _ _ _ _ _))

abbrev rng (x y z : UInt64) : UInt64 := Float64.sub (max3 x y z) (min3 x y z)
abbrev far (x y z u : UInt64) : UInt64 := Float64.div (Float64.sub (max3 x y z) u) (rng x y z)
abbrev turn (d : UInt64) : UInt64 := (Float64.divmod (Float64.div d 4618441417868443648) 4607182418800017408).snd
def hueR (x y z : UInt64) : UInt64 :=
  if (Float64.cmp x (max3 x y z) == some Ordering.eq) = true then turn (Float64.sub (far x y z z) (far x y z y))
  else if (Float64.cmp y (max3 x y z) == some Ordering.eq) = true then turn (Float64.sub (Float64.add 4611686018427387904 (far x y z x)) (far x y z z))
  else turn (Float64.sub (Float64.add 4616189618054758400 (far x y z y)) (far x y z x))
def satR (x y z : UInt64) : UInt64 := Float64.div (rng x y z) (max3 x y z)
abbrev sumR (x y z : UInt64) : UInt64 := Float64.add (max3 x y z) (min3 x y z)
def lightR (x y z : UInt64) : UInt64 := Float64.div (sumR x y z) 4611686018427387904
abbrev lowL (x y z : UInt64) : Bool := Float64.cmp (Float64.div (sumR x y z) 4611686018427387904) 4602678819172646912 == some Ordering.lt || Float64.cmp (Float64.div (sumR x y z) 4611686018427387904) 4602678819172646912 == some Ordering.eq
abbrev highR (x y z : UInt64) : UInt64 := Float64.sub (Float64.sub 4611686018427387904 (max3 x y z)) (min3 x y z)
def restR (x y z : UInt64) : UInt64 := if lowL x y z = true then Float64.div (rng x y z) (sumR x y z) else Float64.div (rng x y z) (highR x y z)

structure RgbOk (x y z : UInt64) : Prop where
  a : (Float64.cmp (min3 x y z) (max3 x y z) == some Ordering.eq) = false
  b : Float64.isZero (max3 x y z) = false
  c : Float64.isZero (rng x y z) = false
  d : lowL x y z = true → Float64.isZero (sumR x y z) = false
  e : lowL x y z = false → Float64.isZero (highR x y z) = false
section
variable {x y z : UInt64}
theorem hueR0 (e : (Float64.cmp x (max3 x y z) == some Ordering.eq) = true) : hueR x y z = turn (Float64.sub (far x y z z) (far x y z y)) := by unfold hueR; rw [if_pos e]
theorem hueR1 (e : (Float64.cmp x (max3 x y z) == some Ordering.eq) = false) (f : (Float64.cmp y (max3 x y z) == some Ordering.eq) = true) :
    hueR x y z = turn (Float64.sub (Float64.add 4611686018427387904 (far x y z x)) (far x y z z)) := by unfold hueR; rw [if_neg (by rw [e]; exact Bool.false_ne_true), if_pos f]
theorem hueR2 (e : (Float64.cmp x (max3 x y z) == some Ordering.eq) = false) (f : (Float64.cmp y (max3 x y z) == some Ordering.eq) = false) :
    hueR x y z = turn (Float64.sub (Float64.add 4616189618054758400 (far x y z y)) (far x y z x)) := by unfold hueR; rw [if_neg (by rw [e]; exact Bool.false_ne_true), if_neg (by rw [f]; exact Bool.false_ne_true)]
theorem restR0 (e : lowL x y z = true) : restR x y z = Float64.div (rng x y z) (sumR x y z) := by unfold restR; rw [if_pos e]
theorem restR1 (e : lowL x y z = false) : restR x y z = Float64.div (rng x y z) (highR x y z) := by unfold restR; rw [if_neg (by rw [e]; exact Bool.false_ne_true)]
theorem tup_eq {a b c a' b' c' : UInt64} (e1 : a = a') (e2 : b = b') (e3 : c = c') : (a, b, c) = (a', b', c') := by rw [e1, e2, e3]
end

set_option maxRecDepth 100000 in
set_option maxHeartbeats 8000000 in
theorem rgb_hsv_call {w : World} {news : List (Addr × Obj)} {x y z : UInt64} {t1 t2 t3 : Tok} (ok : RgbOk x y z) :
   Cl w 3 46 [.float x t1, .float y t2, .float z t3] news (Tup3 news (hueR x y z) (satR x y z) (max3 x y z)) := by
  unfold Cl
  w_top off
  k_fill
  intro mean mg mb dp un gd cn cs a ccd cl outer A₀ base h₀ L m s Q E B F X N T hk hd hu hret
  obtain ⟨ok1, ok2, ok3, ok4, ok5⟩ := ok
  refine wpAny_call ?_
  k_dflt ktr_enter
  k_steps
  all_goals first
    | exact absurd ok2 (by rw [Bool.not_eq_false]; assumption)
    | exact absurd ok3 (by rw [Bool.not_eq_false]; assumption)
    | (refine' hret _ _ _ _ (by assumption) (by assumption) (Tup3.mk ?_ (by assumption))
       refine tup_eq ?_ rfl rfl
       first
         | exact hueR0 (by assumption)
         | exact hueR1 (by assumption) (by assumption)
         | exact hueR2 (by assumption) (by assumption))

set_option maxRecDepth 100000 in
set_option maxHeartbeats 8000000 in
theorem rgb_hls_call {w : World} {news : List (Addr × Obj)} {x y z : UInt64} {t1 t2 t3 : Tok} (ok : RgbOk x y z) :
   Cl w 3 39 [.float x t1, .float y t2, .float z t3] news (Tup3 news (hueR x y z) (lightR x y z) (restR x y z)) := by
  unfold Cl
  w_top off
  k_fill
  intro mean mg mb dp un gd cn cs a ccd cl outer A₀ base h₀ L m s Q E B F X N T hk hd hu hret
  obtain ⟨ok1, ok2, ok3, ok4, ok5⟩ := ok
  refine wpAny_call ?_
  k_dflt ktr_enter
  k_steps
  all_goals first
    | exact absurd ok2 (by rw [Bool.not_eq_false]; assumption)
    | exact absurd ok3 (by rw [Bool.not_eq_false]; assumption)
    | exact absurd (ok4 (by assumption)) (by rw [Bool.not_eq_false]; assumption)
    | exact absurd (ok5 (by assumption)) (by rw [Bool.not_eq_false]; assumption)
    | (refine' hret _ _ _ _ (by assumption) (by assumption) (Tup3.mk ?_ (by assumption))
       refine tup_eq ?_ rfl ?_
       first
         | exact hueR0 (by assumption)
         | exact hueR1 (by assumption) (by assumption)
         | exact hueR2 (by assumption) (by assumption)
       first
         | exact restR0 (by assumption)
         | exact restR1 (by assumption))
end Mine

open PySem PySem.W PySem.Calls PyProof.Rows
namespace Mine
/-- the float of a quotient of two ints -/
abbrev fq (a b : Int) : UInt64 := Float64.ofFrac (decide (a < 0) != decide (b < 0)) a.natAbs b.natAbs
/-- so many eighths -/
def eighth (k : Nat) : UInt64 := Float64.ofFrac false k 8

def isEq (a b : UInt64) : Bool := Float64.cmp a b == some Ordering.eq
def hueB (p : Nat) : Bool := !Float64.isInf (fq p 8) && Float64.isFinite (Float64.mul (fq p 8) 4618441417868443648) && decide ((hsvI (fq p 8)).natAbs < 1000) &&
  decide ((hsvI (fq p 8)).fmod 6 = (hsvI (fq (p % 8 : Nat) 8)).fmod 6) && hsvF (fq p 8) == hsvF (fq (p % 8 : Nat) 8)
def shareB (a b : Nat) : Bool := !Float64.isInf (fq (1 + a : Nat) 4) && !(Float64.cmp (fq (1 + a : Nat) 4) 0 == some Ordering.eq) && !Float64.isInf (fq ((1 + b : Nat) * (8 - (1 + a : Nat))) 32)
def rgbB (x y z : UInt64) : Bool := !isEq (min3 x y z) (max3 x y z) && !Float64.isZero (max3 x y z) && !Float64.isZero (rng x y z) &&
  (if lowL x y z then !Float64.isZero (sumR x y z) else !Float64.isZero (highR x y z))
def backB (p : Nat) (s v li : UInt64) (r : UInt64 × UInt64 × UInt64) : Bool :=
  rgbB r.1 r.2.1 r.2.2 && hueR r.1 r.2.1 r.2.2 == eighth p && isEq (lightR r.1 r.2.1 r.2.2) li && isEq (satR r.1 r.2.1 r.2.2) s && isEq (max3 r.1 r.2.1 r.2.2) v
def toldB (p a b : Nat) : Bool :=
  backB p (fq (1 + a : Nat) 4) (fq (1 + b : Nat) 4) (fq ((1 + b : Nat) * (8 - (1 + a : Nat))) 32) (hsvR (fq p 8) (fq (1 + a : Nat) 4) (fq (1 + b : Nat) 4))
set_option maxRecDepth 100000 in
theorem hueB_all : ∀ p : Fin 35, hueB p.1 = true := by decide +kernel
set_option maxRecDepth 100000 in
theorem shareB_all : ∀ a : Fin 4, ∀ b : Fin 4, shareB a.1 b.1 = true := by decide +kernel
set_option maxRecDepth 100000 in
theorem toldB_all0 : ∀ p : Fin 8, ∀ a : Fin 4, toldB p.1 a.1 0 = true := by decide +kernel
set_option maxRecDepth 100000 in
theorem toldB_all1 : ∀ p : Fin 8, ∀ a : Fin 4, toldB p.1 a.1 1 = true := by decide +kernel
set_option maxRecDepth 100000 in
theorem toldB_all2 : ∀ p : Fin 8, ∀ a : Fin 4, toldB p.1 a.1 2 = true := by decide +kernel
set_option maxRecDepth 100000 in
theorem toldB_all3 : ∀ p : Fin 8, ∀ a : Fin 4, toldB p.1 a.1 3 = true := by decide +kernel
theorem toldB_all (p a b : Nat) (hp : p < 8) (ha : a < 4) (hb : b < 4) : toldB p a b = true := by
  have : b = 0 ∨ b = 1 ∨ b = 2 ∨ b = 3 := by omega
  rcases this with rfl | rfl | rfl | rfl
  · exact toldB_all0 ⟨p, hp⟩ ⟨a, ha⟩
  · exact toldB_all1 ⟨p, hp⟩ ⟨a, ha⟩
  · exact toldB_all2 ⟨p, hp⟩ ⟨a, ha⟩
  · exact toldB_all3 ⟨p, hp⟩ ⟨a, ha⟩

theorem hsvR_congr {h h' s v : UInt64} (e : (hsvI h).fmod 6 = (hsvI h').fmod 6) (f : hsvF h = hsvF h') : hsvR h s v = hsvR h' s v := by
  unfold hsvR hsvQ hsvT
  rw [e, f]
theorem rgbOk_of {x y z : UInt64} (h : rgbB x y z = true) : RgbOk x y z := by
  unfold rgbB isEq at h
  simp only [Bool.and_eq_true, Bool.not_eq_true'] at h
  obtain ⟨⟨⟨a, b⟩, c⟩, d⟩ := h
  refine ⟨a, b, c, fun e => ?_, fun e => ?_⟩
  · rw [e] at d; simpa using d
  · rw [e] at d; simpa using d

structure ToldOk (p a b : Int) (x y z : UInt64) : Prop where
  er : hsvR (fq p 8) (fq a 4) (fq b 4) = (x, y, z)
  i1 : Float64.isInf (fq p 8) = false
  i2 : Float64.isInf (fq a 4) = false
  i3 : Float64.isInf (fq b 4) = false
  i4 : Float64.isInf (fq (b * (8 - a)) 32) = false
  hs : HsvOk (fq p 8) (fq a 4)
  rg : RgbOk x y z
  hue : hueR x y z = eighth (p % 8).toNat
  li : (Float64.cmp (lightR x y z) (fq (b * (8 - a)) 32) == some Ordering.eq) = true
  sa : (Float64.cmp (satR x y z) (fq a 4) == some Ordering.eq) = true
  va : (Float64.cmp (max3 x y z) (fq b 4) == some Ordering.eq) = true

theorem small_fits {n : Nat} (h : n < 1000) : n < 2 ^ 1024 - 2 ^ 970 := Nat.lt_of_lt_of_le h (by decide +kernel)

theorem toldOkN (p a b : Nat) (hp : p < 35) (ha : a < 4) (hb : b < 4) : ∃ x y z, ToldOk (p : Nat) (1 + a : Nat) (1 + b : Nat) x y z := by
  have h1 := hueB_all ⟨p, hp⟩
  have h2 := shareB_all ⟨a, ha⟩ ⟨b, hb⟩
  have h3 := shareB_all ⟨b, hb⟩ ⟨b, hb⟩
  have h4 := toldB_all (p % 8) a b (Nat.mod_lt _ (by decide)) ha hb
  unfold hueB at h1
  unfold shareB at h2 h3
  unfold toldB backB isEq at h4
  simp only [Bool.and_eq_true, Bool.not_eq_true', decide_eq_true_eq, beq_iff_eq] at h1 h2 h3
  obtain ⟨⟨⟨⟨a1, a2⟩, a3⟩, a4⟩, a5⟩ := h1
  rw [← hsvR_congr a4 a5] at h4
  rw [Bool.and_eq_true, Bool.and_eq_true, Bool.and_eq_true, Bool.and_eq_true] at h4
  obtain ⟨⟨⟨⟨c1, c2⟩, c3⟩, c4⟩, c5⟩ := h4
  have e8 : ((p : Int) % 8).toNat = p % 8 := by omega
  exact ⟨_, _, _, rfl, a1, h2.1.1, h3.1.1, h2.2, ⟨h2.1.2, a2, small_fits a3⟩, rgbOk_of c1, by rw [e8]; exact eq_of_beq c2, c3, c4, c5⟩

theorem toldOk {p a b : Int} (h0 : 0 ≤ p) (h1 : p < 35) (a0 : 1 ≤ a) (a1 : a < 5) (b0 : 1 ≤ b) (b1 : b < 5) : ∃ x y z, ToldOk p a b x y z := by
  have h := toldOkN p.toNat (a - 1).toNat (b - 1).toNat (by omega) (by omega) (by omega)
  have e1 : (p.toNat : Int) = p := by omega
  have e2 : ((1 + (a - 1).toNat : Nat) : Int) = a := by omega
  have e3 : ((1 + (b - 1).toNat : Nat) : Int) = b := by omega
  rwa [e1, e2, e3] at h
end Mine

open PySem PySem.W PySem.Calls PyProof.Rows
namespace Mine
theorem Cl.use {w : World} {k : Nat} {f : Addr} {vs : List Value} {news : List (Addr × Obj)} {Post : Value → List (Addr × Obj) → Prop} {mean : ExcName → Option Value} {mg mb : Str → Option Value}
   {dp un : Nat} {gd : Option (List Code)} {cn : Str} {cs : Scope} {a : Addr} {ccd : Value} {cl : List (Str × Addr)} {outer : List Env} {A₀ : Around} {base h₀ : Heap} {L : Addr} {m : Str → Option Value} {s : Shared} {Q E : Value → Shared → Prop}
   (C : Cl w k f vs news Post) (B : Below A₀ base outer h₀) (F : Fr h₀ L s.heap m) (X : (hd.heap_39 w.params).In h₀) (N : News h₀ L s.heap news)
   (T : Top hd.view_39 (looseW hd.view_39 ["insort_left", "bisect_left"]) mean mg mb h₀) (hk : cs.kind = .function) (hd : dp + k < recursionLimit) (hu : un + 8 * k < cLine)
   (h : ∀ v news' h' tk', Fr h₀ L h' m → News h₀ L h' news' → Post v news' → Q v { s with heap := h', toks := tk' }) :
   wpAny (model PySem.Challenge.rw_sr0028_01.row.prog w) (ktrTop dp un gd cn cs L a ccd cl outer) (call (.ref f) vs) Q E s :=
  C mean mg mb dp un gd cn cs a ccd cl outer A₀ base h₀ L m s Q E B F X N T hk hd hu h

/-- a call that only adds to the heap -/
def ClK (w : World) (k : Nat) (f : Addr) (vs : List Value) (news : List (Addr × Obj)) (Post : Value → List (Addr × Obj) → Prop) : Prop :=
  ∀ (mean : ExcName → Option Value) (mg mb : Str → Option Value)
   (dp un : Nat) (gd : Option (List Code)) (cn : Str) (cs : Scope) (a : Addr) (ccd : Value) (cl : List (Str × Addr)) (outer : List Env) (A₀ : Around) (base h₀ : Heap) (L : Addr) (m : Str → Option Value) (s : Shared) (Q E : Value → Shared → Prop),
   Below A₀ base outer h₀ → Fr h₀ L s.heap m → (hd.heap_39 w.params).In h₀ → News h₀ L s.heap news →
   Top hd.view_39 (looseW hd.view_39 ["insort_left", "bisect_left"]) mean mg mb h₀ → cs.kind = .function → dp + k < recursionLimit → un + 8 * k < cLine →
   (∀ v news' h' tk', Fr h₀ L h' m → News h₀ L h' news' → Post v news' → InElt s.heap h' → Q v { s with heap := h', toks := tk' }) →
   wpAny (model PySem.Challenge.rw_sr0028_01.row.prog w) (ktrTop dp un gd cn cs L a ccd cl outer) (call (.ref f) vs) Q E s
theorem ClK.use {w : World} {k : Nat} {f : Addr} {vs : List Value} {news : List (Addr × Obj)} {Post : Value → List (Addr × Obj) → Prop} {mean : ExcName → Option Value} {mg mb : Str → Option Value}
   {dp un : Nat} {gd : Option (List Code)} {cn : Str} {cs : Scope} {a : Addr} {ccd : Value} {cl : List (Str × Addr)} {outer : List Env} {A₀ : Around} {base h₀ : Heap} {L : Addr} {m : Str → Option Value} {s : Shared} {Q E : Value → Shared → Prop}
   (C : ClK w k f vs news Post) (B : Below A₀ base outer h₀) (F : Fr h₀ L s.heap m) (X : (hd.heap_39 w.params).In h₀) (N : News h₀ L s.heap news)
   (T : Top hd.view_39 (looseW hd.view_39 ["insort_left", "bisect_left"]) mean mg mb h₀) (hk : cs.kind = .function) (hd : dp + k < recursionLimit) (hu : un + 8 * k < cLine)
   (h : ∀ v news' h' tk', Fr h₀ L h' m → News h₀ L h' news' → Post v news' → InElt s.heap h' → Q v { s with heap := h', toks := tk' }) :
   wpAny (model PySem.Challenge.rw_sr0028_01.row.prog w) (ktrTop dp un gd cn cs L a ccd cl outer) (call (.ref f) vs) Q E s :=
  C mean mg mb dp un gd cn cs a ccd cl outer A₀ base h₀ L m s Q E B F X N T hk hd hu h
theorem in_tail2 {p q : Addr × Obj} {news : List (Addr × Obj)} : ∀ x ∈ news, x ∈ p :: q :: news := fun _ h => .tail _ (.tail _ h)
theorem in_tail1 {p : Addr × Obj} {news : List (Addr × Obj)} : ∀ x ∈ news, x ∈ p :: news := fun _ h => .tail _ h

local macro_rules | `(tactic| walk_at "MINE use") => `(tactic| ((case B => k_asm); (case F => k_asm); (case X => k_asm); (case N => k_asm); (case T => k_asm); (case K => first | exact rfl | assumption); (case d => first | (dsimp only [ktrTop]; omega) | ktr_room); (case u => first | (dsimp only [ktrTop]; omega) | ktr_units)))
local macro_rules | `(tactic| walk_at "MINE tup3") => `(tactic| (intro v' news' h' tk' F' N' P'; obtain ⟨D', t1', t2', t3', n', e1', e2', hl'⟩ := P'; subst e1'; subst e2'; (try k_lt hl'); (try dsimp only)))
local macro_rules | `(tactic| walk_at "call ref") => `(tactic| (k_here; (with_reducible show wpAny _ _ (call (Value.ref 53) _) _ _ _); k_dflt (refine' Cl.use (hsv_call ?ok ?er) ?B ?F ?X ?N ?T ?K ?d ?u ?_; (case ok => assumption); (case er => assumption); walk_at "MINE use"); walk_at "MINE tup3"))
local macro_rules | `(tactic| walk_at "call ref") => `(tactic| (k_here; (with_reducible show wpAny _ _ (call (Value.ref 46) _) _ _ _); k_dflt (refine' Cl.use (rgb_hsv_call ?ok) ?B ?F ?X ?N ?T ?K ?d ?u ?_; (case ok => assumption); walk_at "MINE use"); walk_at "MINE tup3"))
local macro_rules | `(tactic| walk_at "call ref") => `(tactic| (k_here; (with_reducible show wpAny _ _ (call (Value.ref 39) _) _ _ _); k_dflt (refine' Cl.use (rgb_hls_call ?ok) ?B ?F ?X ?N ?T ?K ?d ?u ?_; (case ok => assumption); walk_at "MINE use"); walk_at "MINE tup3"))

theorem fmod4 (d : Int) : 1 ≤ 1 + d.fmod 4 ∧ 1 + d.fmod 4 < 5 := by
  have a := Int.fmod_nonneg_of_pos d (b := 4) (by decide)
  have b := Int.fmod_lt_of_pos d (b := 4) (by decide)
  omega

set_option maxRecDepth 100000 in
set_option maxHeartbeats 8000000 in
theorem told_call {w : World} {news : List (Addr × Obj)} {p : Int} {tp : Tok} {l : Addr} {vs : List Value} {ns : List Int} {n : Nat} {b : Bool}
   (hl : (l, listOf vs.toArray n) ∈ news) (hi : IntsAre vs ns) (hn : ns.length = 10) (h0 : 0 ≤ p) (h1 : p < 35) :
   ClK w 6 111 [.int p tp, .ref l, .bool b] news (fun v news' => ∃ t, v = .float (eighth (p % 8).toNat) t ∧ news' = news) := by
  unfold ClK
  w_top off
  k_fill
  intro mean mg mb dp un gd cn cs a ccd cl outer A₀ base h₀ L m s Q E B F X N T hk hd hu hret
  have fa := fmod4 (ns.getD (Int.toNat 9) 0)
  have fb := fmod4 ((ns.getD (Int.toNat 9) 0).fdiv 4)
  obtain ⟨x, y, z, er, i1, i2, i3, i4, ok1, ok2, hue, li, sa, va⟩ := toldOk (p := p) h0 h1 fa.1 fa.2 fb.1 fb.2
  refine wpAny_call ?_
  k_dflt ((refine' code_defG ?k1_j1 ?k2_j1 ?k3_j1 ?k4_j1 ?k5_j1 ?kA_j1 ?kF_j1 ?kK_j1 ?k6_j1 ?k7_j1 ?k8_j1 ?k9_j1 ?kB_j1 ?_ ?c2_j1 ?c3_j1 ?c4_j1 ?c5_j1; (case kA_j1 => exact rfl); (case kF_j1 => exact rfl); (case kK_j1 => assumption); (case k1_j1 => k_asm); (case k2_j1 => k_asm); (case k3_j1 => k_asm); (case k4_j1 => k_asm); (case k5_j1 => k_asm); (case k6_j1 => k_is); (case k7_j1 => k_is); (case k8_j1 => ktr_room); (case k9_j1 => exact BindsTo.of_eq rfl); (case c5_j1 => decide); (case kB_j1 => exact locs rfl); (case c2_j1 => exact rfl); (case c3_j1 => exact rfl); (case c4_j1 => exact rfl); k_whole; intro g' L' h' FG' F' N' B' X' T' G'; (try dsimp only); (try k_fold)))
  k_steps
  all_goals (refine' hret _ _ _ _ (by assumption) (cb_drop (by assumption) ?_) ⟨_, congrArg (Value.float · _) hue, rfl⟩ (elt_after (InElt.start _) (by assumption) N (by assumption) (by assumption) in_tail2); intro q hq; first | exact .tail _ (.tail _ hq) | exact .tail _ hq)
end Mine

open PySem PySem.W PySem.Calls PyProof.Rows
namespace Mine
def Stop (P : Prop) : Prop := P
theorem Stop.of {P : Prop} (h : Stop P) : P := h

/-- a reply 257 with so many quotation marks and a k -/
def reply (a : Nat) : Str := ⟨([50, 53, 55, 32, 34] ++ (List.replicate a 34 ++ [107])).toArray⟩
/-- so many quotation marks, and a k where b -/
def quoted (a : Nat) (b : Bool) : Str := ⟨(List.replicate a 34 ++ if b then [107] else []).toArray⟩
theorem reply_len (a : Nat) : (reply a).length = 6 + a := by
  show ([50, 53, 55, 32, 34] ++ (List.replicate a 34 ++ [107])).toArray.size = _
  simp; omega
theorem reply_quote {a k : Nat} (h0 : 5 ≤ k) (h : k < 5 + a) : (reply a).cps[k]? = some 34 := by
  show ([50, 53, 55, 32, 34] ++ (List.replicate a 34 ++ [107])).toArray[k]? = _
  rw [List.getElem?_toArray, List.getElem?_append_right (by simpa using h0), List.getElem?_append_left (by simp; omega), List.getElem?_replicate]
  simp; omega
theorem reply_k {a k : Nat} (h : k = 5 + a) : (reply a).cps[k]? = some 107 := by
  subst h
  show ([50, 53, 55, 32, 34] ++ (List.replicate a 34 ++ [107])).toArray[5 + a]? = _
  rw [List.getElem?_toArray, List.getElem?_append_right (by simp), List.getElem?_append_right (by simp)]
  simp
theorem reply_head : ∀ a : Fin 8, ((Txt.slice (reply a.1) none (some 3) != ("257" : Str)) = false ∧ (Txt.slice (reply a.1) (some 3) (some 5) != (" \"" : Str)) = false) := by decide +kernel
theorem quoted_len (a : Nat) (b : Bool) : (quoted a b).length ≤ a + 1 := by
  show (List.replicate a 34 ++ if b then [107] else []).toArray.size ≤ _
  cases b <;> simp
theorem quoted_more (a : Nat) : quoted a false ++ (⟨#[34]⟩ : Str) = quoted (a + 1) false := by
  refine Str.ext' (Array.toList_inj.mp ?_)
  simp [quoted, Str.cps_append, List.replicate_succ']
theorem q0 : ("" : Str) = quoted 0 false := by decide +kernel
theorem quoted_k (a : Nat) : quoted a false ++ (⟨#[107]⟩ : Str) = quoted a true := by
  refine Str.ext' (Array.toList_inj.mp ?_)
  simp [quoted, Str.cps_append]

theorem item_sign {prog : Program} {w : World} {A : Around} {E : Value → Shared → Prop} {s : Shared} {value slice : Expr} {x : Str} {t u : Tok} {k : Int} {c : Nat} {Q : Value → Shared → Prop} (h0 : 0 ≤ k) (h1 : k < x.length) (h2 : x.length ≤ 1000) (hc : x.cps[k.toNat]? = some c)
    (h : Q (.str ⟨#[c]⟩ s.toks) { s with toks := s.toks + 1 })
    (hs : subscripted slice false (.str x t) (.int k u) = operate [.str x t, .int k u] (getItem (.str x t) (.int k u)) := by with_unfolding_all rfl)
    (ht : ∀ r, letTemporaryGo value (.str x t) r = pure () := by intro _; with_unfolding_all rfl) :
    wpAny (model prog w) A (subscriptTail value slice (.str x t) (.int k u)) Q E s := by
  refine item_str (fitsSsize_of (N := 9223372036854775808) (by omega) (by omega) (Int.le_refl _)) (by omega) h1 (fun _ => ?_) hs ht
  have e : Txt.item x k = ⟨#[c]⟩ := by
    have e2 : seqIndex? k x.length = some k.toNat := by
      have hj : (if k < 0 then k + (x.length : Int) else k) = k := if_neg (by omega)
      unfold seqIndex?
      simp only [hj]
      rw [if_pos (by simp; omega)]
    unfold Txt.item Txt.charAt
    rw [e2]
    simp [hc]
  rw [e]; exact h

local macro_rules | `(tactic| walk_at "exec While Compare cons nil") => `(tactic| (k_here; refine Stop.of ?_))
local macro_rules | `(tactic| walk_at "KswEnd") => `(tactic| (k_here; refine Stop.of ?_))
local macro_rules | `(tactic| walk_at "subscriptTail Name Name str int") => `(tactic| (k_here; (with_reducible show wpAny _ _ (subscriptTail _ _ (Value.str _ _) (Value.int _ _)) _ _ _); k_dflt (refine' item_sign ?i0 ?i1 ?i2 ?ic ?_; (case ic => assumption); (case i0 => omega); (case i1 => omega); (case i2 => omega))))
set_option maxRecDepth 100000 in
set_option maxHeartbeats 8000000 in
theorem parse_call {w : World} {news : List (Addr × Obj)} {tp : Tok} {a : Nat} (ha : a < 8) :
   Cl w 3 85 [.str (reply a) tp] news (fun v news' => ∃ t, v = .str (quoted (a / 2) (decide (a % 2 = 0))) t ∧ news' = news) := by
  unfold Cl
  w_top off
  k_fill
  obtain ⟨q1, q2⟩ := reply_head ⟨a, ha⟩
  dsimp only at q1 q2
  have hx := reply_len a
  have ch := @reply_quote a
  have ck := @reply_k a
  generalize reply a = x at *
  intro mean mg mb dp un gd cn cs a' ccd cl outer A₀ base h₀ L m s Q E B F X N T hk hd hu hret
  refine wpAny_call ?_
  k_dflt ktr_enter
  k_steps

  unfold Stop
  rename Fr _ _ _ _ => F1
  rename News _ _ _ _ => N1
  refine' ksw_while (σ := Int × Str × Tok × Tok) (fun _ => news) (fun c => [("i", .int c.1 c.2.2.1), ("dirname", .str c.2.1 c.2.2.2)]) (fun _ => True) ["c"]
    (fun c => (∃ j : Nat, c.1 = 5 + 2 * j ∧ c.2.1 = quoted j false ∧ 2 * j ≤ a) ∨ (c.1 = 6 + a ∧ c.2.1 = quoted (a / 2) (decide (a % 2 = 0)))) (fun c => (6 + a - c.1).toNat) (5, "", _, _) F1 N1 trivial ?hk ?hp ?turn
  case hk => kst_all
  case hp => exact .inl ⟨0, rfl, q0, by omega⟩
  case turn =>
    rintro ⟨i, d, ti, td⟩ u h tk - hP F2 N2
    dsimp only at hP F2
    rcases hP with ⟨j, hi, hdn, hj⟩ | ⟨hi, hdn⟩
    · have hdl := quoted_len j false
      rw [← hdn] at hdl
      have hji : i.toNat = 5 + 2 * j := by omega
      have hji' : (i + 1).toNat = 6 + 2 * j := by omega
      have : 2 * j + 1 < a ∨ 2 * j + 1 = a ∨ 2 * j = a := by omega
      rcases this with hc | hc | hc
      · have c0 : x.cps[i.toNat]? = some 34 := ch (by omega) (by omega)
        have c1 : x.cps[(i + 1).toNat]? = some 34 := ch (by omega) (by omega)
        k_steps
        all_goals (unfold Stop; rename News _ _ _ _ => nE'; refine' ksw_end (i + 1 + 1, d ++ (⟨#[34]⟩ : Str), _, _) (by assumption) nE' (by kst_in) trivial (by kst_all) (by
          intro z h2 h3
          have hz1 : z ≠ "i" := h2 _ (.head _)
          have hz2 : z ≠ "dirname" := h2 _ (.tail _ (.head _))
          have hz3 : z ≠ "c" := by rintro rfl; exact absurd h3 (by decide)
          simp [kstB, hz1, hz2, hz3]) (.inl ⟨j + 1, by dsimp only; omega, by dsimp only; rw [hdn, quoted_more], by omega⟩) (by dsimp only; omega))
      · have c0 : x.cps[i.toNat]? = some 34 := ch (by omega) (by omega)
        have c1 : x.cps[(i + 1).toNat]? = some 107 := ck (by omega)
        have e1 : a / 2 = j := by omega
        have e2 : decide (a % 2 = 0) = false := by simp; omega
        k_steps
        all_goals exact hret _ _ _ _ (by assumption) (by assumption) ⟨td, by rw [hdn, e1, e2], rfl⟩
      · have c0 : x.cps[i.toNat]? = some 107 := ck (by omega)
        have e1 : a / 2 = j := by omega
        have e2 : decide (a % 2 = 0) = true := by simp; omega
        k_steps
        all_goals (unfold Stop; rename News _ _ _ _ => nE'; refine' ksw_end (i + 1, d ++ (⟨#[107]⟩ : Str), _, _) (by assumption) nE' (by kst_in) trivial (by kst_all) (by
          intro z h2 h3
          have hz1 : z ≠ "i" := h2 _ (.head _)
          have hz2 : z ≠ "dirname" := h2 _ (.tail _ (.head _))
          have hz3 : z ≠ "c" := by rintro rfl; exact absurd h3 (by decide)
          simp [kstB, hz1, hz2, hz3]) (.inr ⟨by dsimp only; omega, by dsimp only; rw [hdn, quoted_k, e1, e2]⟩) (by dsimp only; omega))
    · k_steps
      all_goals exact hret _ _ _ _ (by assumption) (by assumption) ⟨td, by rw [hdn], rfl⟩
end Mine

open PySem PySem.W PySem.Calls PyProof.Rows
namespace Mine
theorem mulq : ∀ k : Fin 8, Txt.mul ("\"" : Str) (k.1 : Int) = quoted k.1 false := by decide +kernel
theorem k_sign : ("k" : Str) = ⟨#[107]⟩ := by decide +kernel
theorem reply_q : ∀ a : Fin 8, ("257 \"" : Str) ++ quoted a.1 true = reply a.1 := by decide +kernel
theorem last_k : ∀ b : Fin 8, (Txt.slice (quoted b.1 true) (some (-1)) none == ("k" : Str)) = true ∧ (Txt.slice (quoted b.1 false) (some (-1)) none == ("k" : Str)) = false := by decide +kernel
section
variable {prog : Program} {w : World} {A : Around} {E : Value → Shared → Prop} {s : Shared} {t u : Tok} {Q : Value → Shared → Prop}
theorem mul_quote {k : Nat} (hk : k < 8) (h : ∀ t' tk, (quoted k false).length ≤ 9 → Q (.str (quoted k false) t') { s with toks := tk }) : wpAny (model prog w) A (binaryOp .Mult (.str "\"" t) (.int (k : Int) u)) Q E s :=
  SB.mul (mulOk_of 1 8 (by decide) (by omega) (by omega) (by decide) (by decide)) fun t' tk => by
    rw [mulq ⟨k, hk⟩]; exact h t' tk (by have := quoted_len k false; omega)
theorem add_k {a : Nat} (ha : a < 8) (h : ∀ t' tk, (quoted a true).length ≤ 9 → Q (.str (quoted a true) t') { s with toks := tk }) : wpAny (model prog w) A (binaryOp .Add (.str (quoted a false) t) (.str "k" u)) Q E s := by
  have hl := quoted_len a false
  refine SB.add (fun t' tk => ?_) (by rw [show ("k" : Str).length = 1 from by decide +kernel, sizeLine_eq]; omega)
  rw [k_sign, quoted_k]; exact h t' tk (by have := quoted_len a true; omega)
end
def Told257 (a : Nat) (news : List (Addr × Obj)) (v : Value) (news' : List (Addr × Obj)) : Prop :=
  ∃ t, ((v = .str (quoted (a / 2) true) t ∧ a % 2 = 0 ∧ (Txt.slice (quoted (a / 2) true) (some (-1)) none == ("k" : Str)) = true) ∨ (v = .str (quoted (a / 2) false) t ∧ a % 2 = 1 ∧ (Txt.slice (quoted (a / 2) false) (some (-1)) none == ("k" : Str)) = false)) ∧ news' = news ∧ (quoted (a / 2) true).length ≤ 9 ∧ (quoted (a / 2) false).length ≤ 9
theorem parse_q {w : World} {news : List (Addr × Obj)} {tp : Tok} {a : Nat} (ha : a < 8) : Cl w 3 85 [.str ("257 \"" ++ quoted a true) tp] news (Told257 a news) := by
  rw [reply_q ⟨a, ha⟩]
  intro mean mg mb dp un gd cn cs a' ccd cl outer A₀ base h₀ L m s Q E B F X N T hk hd hu hret
  refine parse_call ha mean mg mb dp un gd cn cs a' ccd cl outer A₀ base h₀ L m s Q E B F X N T hk hd hu fun v news' h' tk' F' N' P => hret v news' h' tk' F' N' ?_
  obtain ⟨t, hv, hn⟩ := P
  have l := last_k ⟨a / 2, by omega⟩
  have q1 := quoted_len (a / 2) true
  have q2 := quoted_len (a / 2) false
  refine ⟨t, ?_, hn, by omega, by omega⟩
  by_cases hc : a % 2 = 0
  · exact .inl ⟨by rw [hv]; simp [hc], hc, l.1⟩
  · exact .inr ⟨by rw [hv]; simp [hc], by omega, l.2⟩

/-- a fresh list of three ints on top of the old ledger -/
def Bits3 (news : List (Addr × Obj)) (x y z : Int) (v : Value) (news' : List (Addr × Obj)) : Prop :=
  ∃ (D : Addr) (t1 t2 t3 : Tok) (n : Nat), v = .ref D ∧ news' = (D, listOf #[.int x t1, .int y t2, .int z t3] n) :: news ∧ ∀ p ∈ news, p.1 < D
theorem Bits3.mk {news : List (Addr × Obj)} {a b c : Int} {D : Addr} {x y z : Int} {t1 t2 t3 : Tok} {n : Nat} (e1 : a = x) (e2 : b = y) (e3 : c = z) (hl : ∀ p ∈ news, p.1 < D) :
    Bits3 news a b c (.ref D) ((D, listOf #[.int x t1, .int y t2, .int z t3] n) :: news) := by subst e1; subst e2; subst e3; exact ⟨D, t1, t2, t3, n, rfl, rfl, hl⟩

local macro_rules | `(tactic| walk_at "MINE use") => `(tactic| ((case B => k_asm); (case F => k_asm); (case X => k_asm); (case N => k_asm); (case T => k_asm); (case K => first | exact rfl | assumption); (case d => first | (dsimp only [ktrTop]; omega) | ktr_room); (case u => first | (dsimp only [ktrTop]; omega) | ktr_units)))
local macro_rules | `(tactic| walk_at "call ref") => `(tactic| (k_here; (with_reducible show wpAny _ _ (call (Value.ref 85) [Value.str (_ ++ quoted _ true) _]) _ _ _); k_dflt (refine' Cl.use (parse_q ?ok) ?B ?F ?X ?N ?T ?K ?d ?u ?_; (case ok => omega); walk_at "MINE use"); intro v' news' h' tk' F' N' P'; obtain ⟨t', P', e2', l1', l2'⟩ := P'; subst e2'; rcases P' with ⟨e1', c1', c2'⟩ | ⟨e1', c1', c2'⟩ <;> subst e1'))
local macro_rules | `(tactic| walk_at "binaryOp Mult str int") => `(tactic| (k_here; (with_reducible show wpAny _ _ (binaryOp Operator.Mult (Value.str _ _) (Value.int _ _)) _ _ _); k_dflt (refine' mul_quote ?ok ?_; (case ok => omega)); intro _ _ _))
local macro_rules | `(tactic| walk_at "binaryOp Add str str") => `(tactic| (k_here; (with_reducible show wpAny _ _ (binaryOp Operator.Add (Value.str (quoted _ false) _) (Value.str _ _)) _ _ _); k_dflt (refine' add_k ?ok ?_; (case ok => omega)); intro _ _ _))
theorem small3 : Builtin.Range.small 0 3 1 = true := by decide
local macro_rules | `(tactic| walk_at "pyIter ref") => `(tactic| (k_here; refine Stop.of ?_))
local macro_rules | `(tactic| walk_at "InvEndN") => `(tactic| (k_here; refine Stop.of ?_))
local macro_rules | `(tactic| walk_at "call builtin:list.append") => `(tactic| (k_here; (with_reducible show wpAny _ _ (call (Value.builtin _) [Value.ref _, _]) _ _ _); k_dflt (refine' append_K ?k1 ?k2 (Upd.head ?k3) ?_ ?z; (case k1 => k_asm); (case k2 => k_asm); (case k3 => assumption); (case z => assumption)); intro h' F' N'))
theorem small_size {vs : List Value} {n : Nat} (h : vs.length ≤ n) (hn : n ≤ 1000) : vs.toArray.size ≤ sizeLine := by rw [List.size_toArray, sizeLine_eq]; omega
theorem off_both {l : Addr} {xs ys : List (Addr × Obj)} (h1 : ∀ p ∈ xs, p.1 ≠ l) (h2 : ∀ p ∈ ys, p.1 ≠ l) : ∀ p ∈ xs ++ ys, p.1 ≠ l := fun p hp => (List.mem_append.mp hp).elim (h1 p) (h2 p)
theorem off_lt {l : Addr} {xs : List (Addr × Obj)} (h1 : ∀ p ∈ xs, p.1 < l) : ∀ p ∈ xs, p.1 ≠ l := fun p hp => Nat.ne_of_lt (h1 p hp)
/-- the first so many bits of k -/
def bitsOf (k j : Nat) : List Int := (List.range j).map fun i => ((k / 2 ^ i % 2 : Nat) : Int)
theorem bitsOf_succ (k j : Nat) : bitsOf k (j + 1) = bitsOf k j ++ [((k / 2 ^ j % 2 : Nat) : Int)] := by
  unfold bitsOf
  rw [List.range_succ, List.map_append]
  rfl
theorem bitsOf_len (k j : Nat) : (bitsOf k j).length = j := by simp [bitsOf]
theorem bits_more {k j b : Nat} {vs : List Value} {x : Int} {t : Tok} (h : IntsAre vs (bitsOf k j)) (hb : b = k / 2 ^ j) (hx : x = ((b % 2 : Nat) : Int)) : IntsAre (vs ++ [Value.int x t]) (bitsOf k (j + 1)) := by
  rw [bitsOf_succ, ← hb, ← hx]
  exact h.append (.cons _ _ .nil)
theorem bits_three {k : Nat} (hk : k < 8) {vs : List Value} (h : IntsAre vs (bitsOf k 3)) : ∃ t1 t2 t3, vs = [.int (k % 2 : Nat) t1, .int (k / 2 % 2 : Nat) t2, .int (k / 4 : Nat) t3] := by
  have e : bitsOf k 3 = [((k % 2 : Nat) : Int), ((k / 2 % 2 : Nat) : Int), ((k / 4 : Nat) : Int)] := by
    have : k / 4 % 2 = k / 4 := by omega
    simp [bitsOf, List.range_succ]
    omega
  rw [e] at h
  obtain ⟨t1, v1, e1, h1⟩ := h.cons_inv
  obtain ⟨t2, v2, e2, h2⟩ := h1.cons_inv
  obtain ⟨t3, v3, e3, h3⟩ := h2.cons_inv
  exact ⟨t1, t2, t3, by rw [e1, e2, e3, h3.nil_inv]⟩
theorem led_in {x : Addr × Obj} {xs ys : List (Addr × Obj)} : ∀ p ∈ x :: xs, p ∈ x :: (xs ++ ys) := fun p hp => (List.mem_cons.mp hp).elim (fun e => e ▸ .head _) fun h => .tail _ (List.mem_append.mpr (.inl h))
theorem own_in {x : Addr × Obj} {xs ys : List (Addr × Obj)} : ∀ p ∈ ys, p ∈ x :: (xs ++ ys) := fun p hp => .tail _ (List.mem_append.mpr (.inr hp))
theorem one_more {α : Type} {xs : List α} {x : α} {n m : Nat} (h : xs.length = n) (hm : n < m) : (xs ++ [x]).length ≤ m := by simp; omega
set_option maxRecDepth 100000 in
set_option maxHeartbeats 8000000 in
theorem bits_call {w : World} {news : List (Addr × Obj)} {tp : Tok} {k : Nat} (hk8 : k < 8) :
   ClK w 6 97 [.int (k : Int) tp] news (Bits3 news (k % 2 : Nat) (k / 2 % 2 : Nat) (k / 4 : Nat)) := by
  unfold ClK
  w_top off
  k_fill
  intro mean mg mb dp un gd cn cs a ccd cl outer A₀ base h₀ L m s Q E B F X N T hk hd hu hret
  refine wpAny_call ?_
  k_dflt ((refine' code_defG ?k1_j2 ?k2_j2 ?k3_j2 ?k4_j2 ?k5_j2 ?kA_j2 ?kF_j2 ?kK_j2 ?k6_j2 ?k7_j2 ?k8_j2 ?k9_j2 ?kB_j2 ?_ ?c2_j2 ?c3_j2 ?c4_j2 ?c5_j2; (case kA_j2 => exact rfl); (case kF_j2 => exact rfl); (case kK_j2 => assumption); (case k1_j2 => k_asm); (case k2_j2 => k_asm); (case k3_j2 => k_asm); (case k4_j2 => k_asm); (case k5_j2 => k_asm); (case k6_j2 => k_is); (case k7_j2 => k_is); (case k8_j2 => ktr_room); (case k9_j2 => exact BindsTo.of_eq rfl); (case c5_j2 => decide); (case kB_j2 => exact locs rfl); (case c2_j2 => exact rfl); (case c3_j2 => exact rfl); (case c4_j2 => exact rfl); k_whole; intro g' L' h' FG' F' N' B' X' T' G'; (try dsimp only); (try k_fold)))
  k_steps
  unfold Stop
  rename Fr _ _ _ _ => F1
  rename News _ _ _ _ => N1
  with_unfolding_all
   refine' kst_range (σ := Nat × Tok × List Value × Nat) (fun c => (_, listOf c.2.2.1.toArray c.2.2.2) :: news) (fun c => [("told", .str (quoted c.1 true) c.2.1)]) (fun c => c.2.2.1.length ≤ 3) []
    (fun pre c => c.1 = k / 2 ^ pre.length ∧ IntsAre c.2.2.1 (bitsOf k pre.length)) (k, _, [], 0) (by rfl) (by assumption) small3 (n := 3) (by rfl) F1 N1 ?hf ?hk ?hp ?turn ?done
  case hf => exact Nat.zero_le _
  case hk => kst_all
  case hp => exact ⟨by simp, .nil⟩
  case turn =>
    rintro ⟨b, tb, vs, n⟩ pre kk t u h tk own hkk hlt hoff hf ⟨hb, hv⟩ F2 N2
    dsimp only [kstB] at hf hb hv F2 N2
    have hMark := kstMark
    have hsz := small_size hf (by decide)
    have hvl : vs.length = pre.length := by rw [hv.length, bitsOf_len]
    have hall := off_both (off_lt (by assumption)) (hoff.ne (.head _))
    replace N2 : News _ _ h ((_, listOf vs.toArray n) :: (news ++ own)) := N2
    have hb8 : b < 8 := by rw [hb]; exact Nat.lt_of_le_of_lt (Nat.div_le_self _ _) hk8
    have hql : (quoted b true).length ≤ 9 := by have := quoted_len b true; omega
    have hb2 : k / 2 ^ (pre.length + 1) = b / 2 := by rw [hb, Nat.pow_succ, Nat.div_div_eq_div_mul]
    clear F1 N1
    k_steps
    all_goals (
      unfold Stop; rename News _ _ _ _ => nE'; simp only [List.push_toArray] at nE'
      refine' kst_end (b / 2, _, vs ++ [Value.int _ _], n + 1) (by assumption) nE' led_in own_in rfl (one_more hvl hlt) (by kst_all) ?_ ⟨?_, ?_⟩
      · intro z h1 h2 _
        have hz := h2 _ (.head _)
        simp [kstB, h1, hz]
      · rw [List.length_append]; exact hb2.symm
      · rw [List.length_append]; exact bits_more hv hb (by omega))
  case done =>
    rintro ⟨b, tb, vs, n⟩ u h tk hf ⟨hb, hv⟩ F2 N2
    dsimp only [kstB] at hf hb hv F2 N2
    obtain ⟨t1, t2, t3, e⟩ := bits_three hk8 hv
    subst e
    clear F1 N1
    k_steps
    all_goals exact hret _ _ _ _ (by assumption) (by assumption) (Bits3.mk rfl rfl rfl (by assumption)) (elt_after (InElt.start _) (by assumption) N (by assumption) (by assumption) in_tail1)
end Mine

open PySem PySem.W PySem.Calls PyProof.Rows
namespace Mine
structure DrawnOk (ns : List Int) : Prop where
  len : ns.length = 10
  lo : ∀ i, 0 ≤ ns.getD i 0
  hi : ∀ i, ns.getD i 0 < 1000000
def pick (x y z i : Int) : Int := if i = 0 then x else if i = 1 then y else z
theorem pick_at {x y z i : Int} {t1 t2 t3 : Tok} (h0 : 0 ≤ i) (h1 : i < 3) : ∃ t, (#[Value.int x t1, .int y t2, .int z t3] : Array Value)[i.toNat]? = some (.int (pick x y z i) t) := by
  have : i = 0 ∨ i = 1 ∨ i = 2 := by omega
  rcases this with rfl | rfl | rfl
  · exact ⟨t1, rfl⟩
  · exact ⟨t2, rfl⟩
  · exact ⟨t3, rfl⟩
theorem bits_item {prog : Program} {w : World} {A : Around} {E : Value → Shared → Prop} {s : Shared} {value slice : Expr} {h₀ : Heap} {L l : Addr} {news : List (Addr × Obj)} {x y z i : Int} {t1 t2 t3 u : Tok} {n : Nat} {Q : Value → Shared → Prop}
    (N : News h₀ L s.heap news) (hm : (l, listOf #[.int x t1, .int y t2, .int z t3] n) ∈ news) (h0 : 0 ≤ i) (h1 : i < 3) (h : ∀ t, Q (.int (pick x y z i) t) s)
    (hs : subscripted slice false (.ref l) (.int i u) = operate [.ref l, .int i u] (getItem (.ref l) (.int i u)) := by with_unfolding_all rfl) :
    wpAny (model prog w) A (subscriptTail value slice (.ref l) (.int i u)) Q E s := by
  obtain ⟨t, ht⟩ := pick_at (x := x) (y := y) (z := z) (t1 := t1) (t2 := t2) (t3 := t3) h0 h1
  have hl : s.heap.IsList l #[.int x t1, .int y t2, .int z t3] := ⟨_, (N _ hm).1, rfl, n, rfl⟩
  exact tail_any hl.typeIs slot_list_getitem.lookup (wpAny_getItem_list hl h0 (by omega) ht (h t)) hs
theorem fmod3 (d : Int) : 0 ≤ d.fmod 3 ∧ d.fmod 3 < 3 := ⟨Int.fmod_nonneg_of_pos d (by decide), Int.fmod_lt_of_pos d (by decide)⟩
/-- a place's phase -/
def phaseS (x y z : Int) (ns : List Int) : Int :=
  (x * ns.getD 4 0 + y * ns.getD 5 0 + z * ns.getD 6 0 + 4 * (x * y * ns.getD 0 0 + x * z * ns.getD 1 0 + y * z * ns.getD 2 0)).fmod 24
def phaseR (x y z : Int) (ns : List Int) (b : Bool) : Int :=
  if b = true then phaseS x y z ns + 4 * pick x y z ((ns.getD 3 0).fmod 3) + (ns.getD 8 0).fmod 8 else phaseS x y z ns + (ns.getD 7 0).fmod 8
local macro_rules | `(tactic| walk_at "subscriptTail") => `(tactic| (k_here; (with_reducible show wpAny _ _ (subscriptTail _ _ (Value.ref _) (Value.int (Int.fmod _ 3) _)) _ _ _); k_dflt (refine' bits_item ?N ?m (fmod3 _).1 (fmod3 _).2 ?_; (case N => k_asm); (case m => assumption)); intro _))
set_option maxRecDepth 100000 in
set_option maxHeartbeats 8000000 in
theorem phase_call {w : World} {news : List (Addr × Obj)} {lb l : Addr} {t1 t2 t3 : Tok} {x y z : Int} {vs : List Value} {ns : List Int} {nb n : Nat} {b : Bool}
   (hb : (lb, listOf #[.int x t1, .int y t2, .int z t3] nb) ∈ news) (hx : x = 0 ∨ x = 1) (hy : y = 0 ∨ y = 1) (hz : z = 0 ∨ z = 1)
   (hl : (l, listOf vs.toArray n) ∈ news) (hi : IntsAre vs ns) (ok : DrawnOk ns) :
   ClK w 6 104 [.ref lb, .ref l, .bool b] news (fun v news' => ∃ t, v = .int (phaseR x y z ns b) t ∧ news' = news) := by
  unfold ClK
  w_top off
  k_fill
  intro mean mg mb dp un gd cn cs a ccd cl outer A₀ base h₀ L m s Q E B F X N T hk hd hu hret
  have hn := ok.len
  have hx2 : -2 < x ∧ x < 2 := by omega
  have hy2 : -2 < y ∧ y < 2 := by omega
  have hz2 : -2 < z ∧ z < 2 := by omega
  have hxy : -2 < x * y ∧ x * y < 2 := by rcases hx with rfl | rfl <;> rcases hy with rfl | rfl <;> decide
  have hxz : -2 < x * z ∧ x * z < 2 := by rcases hx with rfl | rfl <;> rcases hz with rfl | rfl <;> decide
  have hyz : -2 < y * z ∧ y * z < 2 := by rcases hy with rfl | rfl <;> rcases hz with rfl | rfl <;> decide
  refine wpAny_call ?_
  k_dflt ((refine' code_defG ?k1_j3 ?k2_j3 ?k3_j3 ?k4_j3 ?k5_j3 ?kA_j3 ?kF_j3 ?kK_j3 ?k6_j3 ?k7_j3 ?k8_j3 ?k9_j3 ?kB_j3 ?_ ?c2_j3 ?c3_j3 ?c4_j3 ?c5_j3; (case kA_j3 => exact rfl); (case kF_j3 => exact rfl); (case kK_j3 => assumption); (case k1_j3 => k_asm); (case k2_j3 => k_asm); (case k3_j3 => k_asm); (case k4_j3 => k_asm); (case k5_j3 => k_asm); (case k6_j3 => k_is); (case k7_j3 => k_is); (case k8_j3 => ktr_room); (case k9_j3 => exact BindsTo.of_eq rfl); (case c5_j3 => decide); (case kB_j3 => exact locs rfl); (case c2_j3 => exact rfl); (case c3_j3 => exact rfl); (case c4_j3 => exact rfl); k_whole; intro g' L' h' FG' F' N' B' X' T' G'; (try dsimp only); (try k_fold)))
  k_steps
  all_goals (refine' hret _ _ _ _ (by assumption) (by assumption) ⟨_, congrArg (Value.int · _) ?_, rfl⟩ (elt_after (InElt.start _) (by assumption) N (by assumption) (by assumption) fun _ h => h); unfold phaseR; first | (rw [if_pos (by assumption)]; rfl) | (rw [if_neg (by rw [Bool.not_eq_true]; assumption)]; rfl))
end Mine

open PySem PySem.W PySem.Calls PyProof.Rows
namespace Mine
open PySem.Flt (FloatsAre)
/-- the numbers of a list that lie below x stand ahead of the others, and r is how many -/
def below (fs : List UInt64) (x : UInt64) (i : Nat) : Bool := Float64.cmp (fs.getD i 0) x == some Ordering.lt
structure Cut (fs : List UInt64) (x : UInt64) (r : Nat) : Prop where
  le : r ≤ fs.length
  lo : ∀ i, i < r → below fs x i = true
  hi : ∀ i, r ≤ i → i < fs.length → below fs x i = false
def Mono (fs : List UInt64) (x : UInt64) : Prop := ∀ i j, i ≤ j → j < fs.length → below fs x j = true → below fs x i = true

theorem float_item {prog : Program} {w : World} {A : Around} {E : Value → Shared → Prop} {s : Shared} {value slice : Expr} {h₀ : Heap} {L l : Addr} {news : List (Addr × Obj)} {vs : List Value} {fs : List UInt64} {i : Int} {u : Tok} {n : Nat} {Q : Value → Shared → Prop}
    (N : News h₀ L s.heap news) (hm : (l, listOf vs.toArray n) ∈ news) (hf : FloatsAre vs fs) (h0 : 0 ≤ i) (h1 : i < fs.length) (h2 : fs.length ≤ 1000) (h : ∀ t, Q (.float (fs.getD i.toNat 0) t) s)
    (hs : subscripted slice false (.ref l) (.int i u) = operate [.ref l, .int i u] (getItem (.ref l) (.int i u)) := by with_unfolding_all rfl) :
    wpAny (model prog w) A (subscriptTail value slice (.ref l) (.int i u)) Q E s := by
  obtain ⟨t, ht⟩ := PySem.Flt.floats_get hf (j := i.toNat) (by omega)
  have hl : s.heap.IsList l vs.toArray := ⟨_, (N _ hm).1, rfl, n, rfl⟩
  exact tail_any hl.typeIs slot_list_getitem.lookup (wpAny_getItem_list hl h0 (by omega) (by simpa using ht) (h t)) hs

local macro_rules | `(tactic| walk_at "exec While Compare cons nil") => `(tactic| (k_here; refine Stop.of ?_))
local macro_rules | `(tactic| walk_at "KswEnd") => `(tactic| (k_here; refine Stop.of ?_))
local macro_rules | `(tactic| walk_at "subscriptTail") => `(tactic| (k_here; (with_reducible show wpAny _ _ (subscriptTail _ _ (Value.ref _) (Value.int _ _)) _ _ _); k_dflt (refine' float_item ?N ?m ?f ?i0 ?i1 ?i2 ?_; (case N => k_asm); (case f => assumption); (case m => assumption); (case i0 => assumption); (case i1 => assumption); (case i2 => assumption)); intro _))
local macro_rules | `(tactic| walk_at "call builtin:len") => `(tactic| (k_here; (with_reducible show wpAny _ _ (call (Value.builtin "len") [Value.ref _]) _ _ _); k_dflt (refine' kst_len ?k1 ?k2 ?k3 ?k4 ?_; (case k1 => k_asm); (case k2 => assumption); (case k3 => assumption); (case k4 => omega))))
theorem fdiv_mid {a b : Int} (h0 : 0 ≤ a) (h : a < b) : a ≤ (a + b).fdiv 2 ∧ (a + b).fdiv 2 < b := by
  rw [Int.fdiv_eq_ediv_of_nonneg _ (by decide)]; omega
set_option maxRecDepth 100000 in
set_option maxHeartbeats 8000000 in
theorem bisect_call {w : World} {news : List (Addr × Obj)} {l : Addr} {vs : List Value} {fs : List UInt64} {n : Nat} {x : UInt64} {t u : Tok}
   (hm : (l, listOf vs.toArray n) ∈ news) (hf : FloatsAre vs fs) (hlen : fs.length ≤ 1000) (mono : Mono fs x) :
   Cl w 3 32 [.ref l, .float x t, .int 0 u, .none] news (fun v news' => ∃ (r : Nat) (t : Tok), v = .int (r : Int) t ∧ news' = news ∧ Cut fs x r) := by
  unfold Cl
  w_top off
  k_fill
  intro mean mg mb dp un gd cn cs a ccd cl outer A₀ base h₀ L m s Q E B F X N T hk hd hu hret
  have hvl : vs.length = fs.length := hf.length
  have hvl2 : vs.length ≤ 1000 := by omega

  refine wpAny_call ?_
  k_dflt ((refine' code_def ?k1_j4 ?k2_j4 ?k3_j4 ?k4_j4 ?k5_j4 ?kA_j4 ?kF_j4 ?kK_j4 ?k6_j4 ?k7_j4 ?k8_j4 ?k9_j4 ?kB_j4 ?_ ?c2_j4 ?c3_j4 ?c4_j4 ?c5_j4; (case kA_j4 => exact rfl); (case kF_j4 => exact rfl); (case kK_j4 => assumption); (case k1_j4 => k_asm); (case k2_j4 => k_asm); (case k3_j4 => k_asm); (case k4_j4 => k_asm); (case k5_j4 => k_asm); (case k6_j4 => k_is); (case k7_j4 => k_is); (case k8_j4 => ktr_room); (case k9_j4 => (refine' kp_binds ?kx_j4 ?ke_j4; (case kx_j4 => k_in); (case ke_j4 => exact fun _ => rfl))); (case c5_j4 => decide); (case kB_j4 => exact locs rfl); (case c2_j4 => exact rfl); (case c3_j4 => exact rfl); (case c4_j4 => exact rfl); k_whole; intro g' L' h' FG' F' N' B' X' T'; (try dsimp only); (try k_fold)))
  k_steps
  unfold Stop
  rename Fr _ _ _ _ => F1
  rename News _ _ _ _ => N1
  refine' ksw_while (σ := Int × Int × Tok × Tok) (fun _ => news) (fun c => [("lo", .int c.1 c.2.2.1), ("hi", .int c.2.1 c.2.2.2)]) (fun _ => True) ["mid"]
    (fun c => 0 ≤ c.1 ∧ c.1 ≤ c.2.1 ∧ c.2.1 ≤ (fs.length : Int) ∧ (∀ i : Nat, (i : Int) < c.1 → below fs x i = true) ∧ (∀ i : Nat, c.2.1 ≤ (i : Int) → i < fs.length → below fs x i = false)) (fun c => (c.2.1 - c.1).toNat) (0, (fs.length : Int), _, _) F1 N1 trivial ?hk ?hp ?turn
  case hk => kst_all
  case hp => exact ⟨Int.le_refl _, by dsimp only; omega, by dsimp only; omega, fun i h => by dsimp only at h; omega, fun i h h' => by dsimp only at h; omega⟩
  case turn =>
    rintro ⟨lo, hi, tl, th⟩ uu h tk - ⟨p0, p1, p2, p3, p4⟩ F2 N2
    dsimp only [kstB] at p0 p1 p2 p3 p4 F2
    clear F1 N1
    by_cases hlh : lo < hi
    · obtain ⟨m0, m1⟩ := fdiv_mid p0 hlh
      have i0 : 0 ≤ (lo + hi).fdiv 2 := by omega
      have i1 : (lo + hi).fdiv 2 < (fs.length : Int) := by omega
      k_steps
      · rename (Float64.cmp _ _ == _) = true => hb
        have hb' : below fs x ((lo + hi).fdiv 2).toNat = true := hb
        unfold Stop
        rename News _ _ _ _ => nE'
        refine' ksw_end ((lo + hi).fdiv 2 + 1, hi, _, th) (by assumption) nE' (by kst_in) trivial (by kst_all) ?_ ⟨by dsimp only; omega, by dsimp only; omega, p2, fun i hi' => mono i _ (by dsimp only at hi'; omega) (by omega) hb', p4⟩ (by dsimp only; omega)
        intro z h2 h3
        have hz1 : z ≠ "lo" := h2 _ (.head _)
        have hz2 : z ≠ "hi" := h2 _ (.tail _ (.head _))
        have hz3 : z ≠ "mid" := by rintro rfl; exact absurd h3 (by decide)
        simp [kstB, hz1, hz2, hz3]
      · rename (Float64.cmp _ _ == _) = false => hb
        have hb' : below fs x ((lo + hi).fdiv 2).toNat = false := hb
        unfold Stop
        rename News _ _ _ _ => nE'
        refine' ksw_end (lo, (lo + hi).fdiv 2, tl, _) (by assumption) nE' (by kst_in) trivial (by kst_all) ?_ ⟨p0, m0, by dsimp only; omega, p3, fun i hi' hi2 => ?_⟩ (by dsimp only; omega)
        · intro z h2 h3
          have hz1 : z ≠ "lo" := h2 _ (.head _)
          have hz2 : z ≠ "hi" := h2 _ (.tail _ (.head _))
          have hz3 : z ≠ "mid" := by rintro rfl; exact absurd h3 (by decide)
          simp [kstB, hz1, hz2, hz3]
        · cases hq : below fs x i with
          | false => rfl
          | true => rw [mono _ i (by dsimp only at hi'; omega) hi2 hq] at hb'; cases hb'
    · k_steps
      all_goals exact hret _ _ _ _ (by assumption) (by assumption) ⟨lo.toNat, tl, by rw [Int.toNat_of_nonneg p0], rfl, by omega, fun i h => p3 i (by omega), fun i h => p4 i (by omega)⟩
end Mine

open PySem PySem.W PySem.Calls PyProof.Rows
namespace Mine
open PySem.Flt (FloatsAre)
theorem ins_is {vs : List Value} {r : Nat} {y : Value} (h : r ≤ vs.length) : kl_ins vs (r : Int) y = vs.take r ++ y :: vs.drop r := by
  unfold kl_ins
  rw [if_neg (by omega)]
  have : min ((r : Int).toNat) vs.length = r := by omega
  rw [this]
theorem FloatsAre.take : ∀ {vs : List Value} {fs : List UInt64}, FloatsAre vs fs → ∀ r, FloatsAre (vs.take r) (fs.take r)
  | _, _, .nil, r => by simp; exact .nil
  | _, _, .cons b t h, 0 => .nil
  | _, _, .cons b t h, r + 1 => .cons b t (FloatsAre.take h r)
theorem FloatsAre.drop : ∀ {vs : List Value} {fs : List UInt64}, FloatsAre vs fs → ∀ r, FloatsAre (vs.drop r) (fs.drop r)
  | _, _, .nil, r => by simp; exact .nil
  | _, _, .cons b t h, 0 => .cons b t h
  | _, _, .cons b t h, r + 1 => FloatsAre.drop h r
theorem FloatsAre.append : ∀ {vs ws : List Value} {fs gs : List UInt64}, FloatsAre vs fs → FloatsAre ws gs → FloatsAre (vs ++ ws) (fs ++ gs)
  | _, _, _, _, .nil, h => h
  | _, _, _, _, .cons b t k, h => .cons b t (FloatsAre.append k h)
theorem fits_small {r : Nat} {n : Nat} (h : r ≤ n) (hn : n ≤ 1000) : Builtin.List.listFitsIndex (r : Int) = true := by
  unfold Builtin.List.listFitsIndex
  simp; omega

/-- x is laid into the list l of floats at its place -/
def Laid (l : Addr) (vs : List Value) (fs : List UInt64) (x : UInt64) (y : Value) (news : List (Addr × Obj)) (v : Value) (news' : List (Addr × Obj)) : Prop :=
  v = .none ∧ ∃ (n r : Nat), news' = (l, listOf (vs.take r ++ y :: vs.drop r).toArray n) :: news ∧ Cut fs x r

local macro_rules | `(tactic| walk_at "MINE use") => `(tactic| ((case B => k_asm); (case F => k_asm); (case X => k_asm); (case N => k_asm); (case T => k_asm); (case K => first | exact rfl | assumption); (case d => first | (dsimp only [ktrTop]; omega) | ktr_room); (case u => first | (dsimp only [ktrTop]; omega) | ktr_units)))
local macro_rules | `(tactic| walk_at "call ref") => `(tactic| (k_here; (with_reducible show wpAny _ _ (call (Value.ref 32) [Value.ref _, Value.float _ _, Value.int _ _, Value.none]) _ _ _); k_dflt (refine' Cl.use (bisect_call ?m ?f ?len ?mono) ?B ?F ?X ?N ?T ?K ?d ?u ?_; (case f => assumption); walk_at "MINE use"; (case m => exact .head _); (case len => assumption); (case mono => assumption)); intro v' news' h' tk' F' N' P'; obtain ⟨r', t', e1', e2', cut'⟩ := P'; subst e1'; subst e2'; have cl' := Cut.le cut'))
local macro_rules | `(tactic| walk_at "call builtin:list.insert") => `(tactic| (k_here; (with_reducible show wpAny _ _ (call (Value.builtin _) [Value.ref _, Value.int _ _, _]) _ _ _); k_dflt (refine' kl_insert ?F ?N ?f rfl (Upd.head ?U) ?z ?_; (case F => k_asm); (case N => k_asm); (case U => assumption); (case f => exact fits_small (by assumption) (by assumption)); (case z => assumption)); intro h' F' N'))
set_option maxRecDepth 100000 in
set_option maxHeartbeats 8000000 in
theorem insort_call {w : World} {news : List (Addr × Obj)} {l : Addr} {vs : List Value} {fs : List UInt64} {n : Nat} {x : UInt64} {t : Tok}
   (hf : FloatsAre vs fs) (hlen : fs.length ≤ 1000) (mono : Mono fs x) (hoff : ∀ p ∈ news, p.1 ≠ l) :
   Cl w 6 23 [.ref l, .float x t] ((l, listOf vs.toArray n) :: news) (Laid l vs fs x (.float x t) news) := by
  unfold Cl
  w_top off
  k_fill
  intro mean mg mb dp un gd cn cs a ccd cl outer A₀ base h₀ L m s Q E B F X N T hk hd hu hret
  have hvl : vs.length = fs.length := hf.length
  have hvl2 : vs.toArray.toList.length ≤ sizeLine := by rw [sizeLine_eq]; simp; omega
  refine wpAny_call ?_
  k_dflt ((refine' code_def ?k1_j5 ?k2_j5 ?k3_j5 ?k4_j5 ?k5_j5 ?kA_j5 ?kF_j5 ?kK_j5 ?k6_j5 ?k7_j5 ?k8_j5 ?k9_j5 ?kB_j5 ?_ ?c2_j5 ?c3_j5 ?c4_j5 ?c5_j5; (case kA_j5 => exact rfl); (case kF_j5 => exact rfl); (case kK_j5 => assumption); (case k1_j5 => k_asm); (case k2_j5 => k_asm); (case k3_j5 => k_asm); (case k4_j5 => k_asm); (case k5_j5 => k_asm); (case k6_j5 => k_is); (case k7_j5 => k_is); (case k8_j5 => ktr_room); (case k9_j5 => (refine' kp_binds ?kx_j5 ?ke_j5; (case kx_j5 => k_in); (case ke_j5 => exact fun _ => rfl))); (case c5_j5 => decide); (case kB_j5 => exact locs rfl); (case c2_j5 => exact rfl); (case c3_j5 => exact rfl); (case c4_j5 => exact rfl); k_whole; intro g' L' h' FG' F' N' B' X' T'; (try dsimp only); (try k_fold)))
  k_steps
  all_goals (
    rename Cut _ _ _ => ct
    have hr := ct.le
    have hk : ∀ N y, (l, listOf (kl_ins vs ((_ : Nat) : Int) y).toArray N) :: news = (l, listOf (vs.take _ ++ y :: vs.drop _).toArray N) :: news := fun N y => by rw [ins_is (show _ ≤ vs.length from hvl ▸ hr)]
    exact hret _ _ _ _ (by assumption) (by assumption) ⟨rfl, _, _, hk _ _, ct⟩)
end Mine

open PySem PySem.W PySem.Calls PyProof.Rows
namespace Mine
local macro_rules | `(tactic| walk_at "binaryOp Add ref ref") => `(tactic| (k_here; refine Stop.of ?_))
local macro_rules | `(tactic| walk_at "subscriptTail Name Slice ref ref") => `(tactic| (k_here; (with_reducible show wpAny _ _ (subscriptTail _ (PySem.Expr.Slice (some _) none none _) (Value.ref _) (Value.ref _)) _ _ _); k_dflt (refine' kmk_slice ?F ?N ?l ?p ?q ?_ ?s ?t ?z; (case F => k_asm); (case N => k_asm); (case l => kmk_list); (case p => kmk_part); (case q => kmk_part); (case s => with_unfolding_all rfl); (case t => kmk_pure); (case z => exact Nat.le_of_ble_eq_true rfl)); intro D' h' F' N' l1; (try k_lt l1)))
theorem fill_from {t0 t1 t2 t3 t4 t5 t6 t7 t8 t9 : Tok} (k : Nat) : IntsAre (slicePick #[Value.int 1 t0, .int 0 t1, .int 1 t2, .int 0 t3, .int 3 t4, .int 5 t5, .int 6 t6, .int 1 t7, .int 4 t8, .int 11 t9] (some (k : Int)) none none).toList (([1, 0, 1, 0, 3, 5, 6, 1, 4, 11] : List Int).drop k) :=
  kmk_from (vs := [Value.int 1 t0, .int 0 t1, .int 1 t2, .int 0 t3, .int 3 t4, .int 5 t5, .int 6 t6, .int 1 t7, .int 4 t8, .int 11 t9]) (.cons 1 _ (.cons 0 _ (.cons 1 _ (.cons 0 _ (.cons 3 _ (.cons 5 _ (.cons 6 _ (.cons 1 _ (.cons 4 _ (.cons 11 _ .nil)))))))))) (Int.natCast_nonneg k)
theorem keep_all (xs : List Int) : List.filter (fun _ => true) xs = xs := by simp
/-- the ten numbers of a script -/
def drawnOf (ns : List Int) : List Int := (ns.take 10).map (·.fmod 1000000) ++ ([1, 0, 1, 0, 3, 5, 6, 1, 4, 11] : List Int).drop (ns.take 10).length
theorem drawnOf_ok (ns : List Int) : DrawnOk (drawnOf ns) := by
  have hall : ∀ d ∈ drawnOf ns, 0 ≤ d ∧ d < 1000000 := by
    intro d hd
    unfold drawnOf at hd
    rcases List.mem_append.mp hd with h | h
    · obtain ⟨a, _, rfl⟩ := List.mem_map.mp h
      exact ⟨Int.fmod_nonneg_of_pos a (by decide), Int.fmod_lt_of_pos a (by decide)⟩
    · have h' := List.mem_of_mem_drop h
      simp at h'
      omega
  have hd : ∀ i, 0 ≤ (drawnOf ns).getD i 0 ∧ (drawnOf ns).getD i 0 < 1000000 := by
    intro i
    rw [List.getD_eq_getElem?_getD]
    cases e : (drawnOf ns)[i]? with
    | none => simp
    | some d => exact hall d (List.mem_of_getElem? e)
  refine ⟨?_, fun i => (hd i).1, fun i => (hd i).2⟩
  unfold drawnOf
  rw [List.length_append, List.length_map, List.length_drop]
  have : (ns.take 10).length ≤ 10 := by rw [List.length_take]; omega
  simp only [List.length_cons, List.length_nil]
  omega
set_option maxRecDepth 100000 in
set_option maxHeartbeats 8000000 in
theorem drawn_call {w : World} {mean : ExcName → Option Value} {mg mb : Str → Option Value}
   {dp un : Nat} {gd : Option (List Code)} {cn : Str} {cs : Scope} {a : Addr} {ccd : Value} {cl : List (Str × Addr)} {outer : List Env} {A₀ : Around} {base h₀ : Heap} {L : Addr} {m : Str → Option Value} {s : Shared} {Q E : Value → Shared → Prop}
   {l : Addr} {vs : List Value} {ns : List Int} {news : List (Addr × Obj)}
   (B : Below A₀ base outer h₀) (F : Fr h₀ L s.heap m) (X : (hd.heap_39 w.params).In h₀) (N : News h₀ L s.heap news)
   (T : Top hd.view_39 (looseW hd.view_39 ["insort_left", "bisect_left"]) mean mg mb h₀) (hk : cs.kind = .function) (hd : dp + 6 < recursionLimit) (hu : un + 8 * 6 < cLine)
   (hL : base.IsList l vs.toArray) (hI : IntsAre vs ns) (h63 : ns.length ≤ 63)
   (h : ∀ v news' h' tk', Fr h₀ L h' m → News h₀ L h' news' → (∃ D vs' n' ns', v = .ref D ∧ news' = (D, listOf vs'.toArray n') :: news ∧ (∀ p ∈ news, p.1 < D) ∧ IntsAre vs' ns' ∧ DrawnOk ns') → Q v { s with heap := h', toks := tk' }) :
   wpAny (model PySem.Challenge.rw_sr0028_01.row.prog w) (ktrTop dp un gd cn cs L a ccd cl outer) (call (.ref 90) [.ref l]) Q E s := by
  revert X
  w_top off
  k_fill
  intro X
  refine wpAny_call ?_
  k_dflt ktr_enter
  (rename Below _ _ _ _ => B2)
  have hL2 := stays_list B2.stays hL
  k_steps
  unfold Stop
  rename News _ _ _ _ => N2
  rename Fr _ _ _ _ => F2
  rename IntsAre _ (List.map _ _) => iX
  rw [keep_all] at iX
  have hten : (ns.take 10).length ≤ 10 := by rw [List.length_take]; omega
  refine add_arrays F2 N2 (News.isList N2 (by k_mem)) (News.isList N2 (by k_mem)) (fun h' F3 N3 => ?_) ?_
  · have hnew : ∀ p ∈ news, p.1 < _ := fun p hp => Heap.lt_size (N2 p (by repeat (first | exact hp | apply List.Mem.tail))).1
    clear F2 N2
    k_steps
    all_goals (
      refine' h _ _ _ _ (by assumption) (cb_drop (by assumption) ?_) ⟨_, _, _, drawnOf ns, rfl, rfl, hnew, ?_, drawnOf_ok ns⟩
      · intro q hq
        rcases List.mem_cons.mp hq with rfl | hq
        · exact .head _
        · repeat (first | exact hq | apply List.Mem.tail)
      · exact iX.append (fill_from _))
  · rw [sizeLine_eq, List.size_toArray, iX.length]
    exact Nat.le_trans (Nat.add_le_add_left (slicePick_size_le _ _ _ _) _) (by simp; omega)
end Mine

open PySem PySem.W PySem.Calls PyProof.Rows
namespace Mine

/-- the place's three bits -/
abbrev bx (k : Nat) : Int := ((k % 2 : Nat) : Int)
abbrev bY (k : Nat) : Int := ((k / 2 % 2 : Nat) : Int)
abbrev bz (k : Nat) : Int := ((k / 4 : Nat) : Int)
def tieAt (e : Nat) (k : Nat) : Int := if e = 0 then bx k else if e = 1 then bY k else bz k
def qd (t0 t1 t2 : Int) (k : Nat) : Int := bx k * bY k * t0 + bx k * bz k * t1 + bY k * bz k * t2

abbrev Fq := Int × Int × Int × Int
def fOne (t0 t1 t2 : Int) (e s : Nat) (w : Int) (k : Nat) : Fq :=
  (bx (k + s) - bx k, bY (k + s) - bY k, bz (k + s) - bz k, (qd t0 t1 t2 (k + s) + qd t0 t1 t2 k + w * (tieAt e (k + s) + tieAt e k)) % 2)
def fAll (t0 t1 t2 : Int) (e s : Nat) : List Fq := (List.range (8 - s)).map (fOne t0 t1 t2 e s 0) ++ (List.range (8 - s)).map (fOne t0 t1 t2 e s 1)
def flipQ (q : Fq) : Fq := (q.1, q.2.1, q.2.2.1, 1 - q.2.2.2)
def sameD (p q : Fq) : Bool := p.1 == q.1 && p.2.1 == q.2.1 && p.2.2.1 == q.2.2.1
def goodB (t0 t1 t2 : Int) (e : Nat) : Bool := decide (t0 + t1 + t2 = 2) && decide ((if e = 0 then t0 + t1 else if e = 1 then t0 + t2 else t1 + t2) = 1)
def evens (F : List Fq) : Bool := F.isPerm (F.map flipQ)
def oneOdd (F : List Fq) (i : Nat) : Bool :=
  match F[i]? with
  | none => false
  | some q => (F.filter fun p => sameD p q).all (fun p => p == q) && evens (F.filter fun p => !sameD p q)
def formalB (t0 t1 t2 : Int) (e : Nat) : Bool :=
  if goodB t0 t1 t2 e then [1, 2, 3, 4, 5, 6, 7].all fun s => evens (fAll t0 t1 t2 e s)
  else [4, 6, 2, 1, 3, 5].any fun s => [0, 1, 2].any fun i => oneOdd (fAll t0 t1 t2 e s) i
set_option maxRecDepth 100000 in
theorem formal_all : ∀ a b c : Fin 2, ∀ e : Fin 3, formalB (a.1 : Nat) (b.1 : Nat) (c.1 : Nat) e.1 = true := by decide +kernel
set_option maxRecDepth 100000 in
theorem fOne_par : ∀ a b c : Fin 2, ∀ e : Fin 3, (∀ s : Fin 8, ∀ q ∈ fAll (a.1 : Nat) (b.1 : Nat) (c.1 : Nat) e.1 s.1, q.2.2.2 = 0 ∨ q.2.2.2 = 1) := by decide +kernel

/-- each hue as often as its opposite -/
def Bal (D : List Int) : Prop := ∀ v : Int, 0 ≤ v → v < 4 → D.count v = D.count (v + 4)
def ev (a b c : Int) (q : Fq) : Int := (q.1 * a + q.2.1 * b + q.2.2.1 * c + 4 * q.2.2.2) % 8
theorem ev_flip (a b c : Int) (q : Fq) : ev a b c (flipQ q) = (ev a b c q + 4) % 8 := by
  unfold ev flipQ
  dsimp only
  generalize q.1 * a + q.2.1 * b + q.2.2.1 * c = u
  omega
theorem ev_range (a b c : Int) (q : Fq) : 0 ≤ ev a b c q ∧ ev a b c q < 8 := by unfold ev; omega
theorem count_turned (D : List Int) (hD : ∀ x ∈ D, 0 ≤ x ∧ x < 8) (v : Int) (h0 : 0 ≤ v) (h1 : v < 8) : (D.map fun x => (x + 4) % 8).count v = D.count ((v + 4) % 8) := by
  rw [List.count_eq_countP, List.count_eq_countP, List.countP_map]
  refine List.countP_congr fun x hx => ?_
  have := hD x hx
  simp only [Function.comp_apply, beq_iff_eq]
  omega
theorem even_count {F : List Fq} (h : evens F = true) (a b c v : Int) (h0 : 0 ≤ v) (h1 : v < 8) : (F.map (ev a b c)).count v = (F.map (ev a b c)).count ((v + 4) % 8) := by
  have hp : F.Perm (F.map flipQ) := List.isPerm_iff.mp h
  have hq := (hp.map (ev a b c)).count_eq v
  rw [hq, List.map_map]
  have e : (F.map (ev a b c ∘ flipQ)) = (F.map (ev a b c)).map fun x => (x + 4) % 8 := by
    rw [List.map_map]
    exact List.map_congr_left fun q _ => ev_flip a b c q
  rw [e]
  refine count_turned _ (fun x hx => ?_) v h0 h1
  obtain ⟨q, _, rfl⟩ := List.mem_map.mp hx
  exact ev_range a b c q
theorem even_bal {F : List Fq} (h : evens F = true) (a b c : Int) : Bal (F.map (ev a b c)) := fun v h0 h1 => by
  rw [even_count h a b c v h0 (by omega)]
  congr 1
  omega
theorem odd_unbal {F : List Fq} {i : Nat} (h : oneOdd F i = true) (a b c : Int) : ¬ Bal (F.map (ev a b c)) := by
  unfold oneOdd at h
  split at h
  · cases h
  · rename_i q hq
    rw [Bool.and_eq_true] at h
    obtain ⟨h1, h2⟩ := h
    have hH : (F.filter fun p => sameD p q) = List.replicate (F.filter fun p => sameD p q).length q := by
      refine List.eq_replicate_iff.mpr ⟨rfl, fun b hb => ?_⟩
      exact eq_of_beq (List.all_eq_true.mp h1 b hb)
    have hmem : q ∈ F.filter fun p => sameD p q := List.mem_filter.mpr ⟨List.mem_of_getElem? hq, by simp [sameD]⟩
    have hpos : 0 < (F.filter fun p => sameD p q).length := List.length_pos_of_mem hmem
    have hp : ((F.filter fun p => sameD p q) ++ F.filter fun p => !sameD p q).Perm F := List.filter_append_perm _ F
    have hc : ∀ w : Int, (F.map (ev a b c)).count w = (List.replicate (F.filter fun p => sameD p q).length (ev a b c q)).count w + ((F.filter fun p => !sameD p q).map (ev a b c)).count w := by
      intro w
      rw [← (hp.map (ev a b c)).count_eq w, List.map_append, List.count_append]
      congr 1
      conv => lhs; rw [hH]
      rw [List.map_replicate]
    have hr := ev_range a b c q
    have heven := even_count h2 a b c (ev a b c q) hr.1 hr.2
    have c1 := hc (ev a b c q)
    have c2 := hc ((ev a b c q + 4) % 8)
    rw [List.count_replicate, if_pos (by simp)] at c1
    rw [List.count_replicate, if_neg (by simp; omega)] at c2
    intro hb
    by_cases h4 : ev a b c q < 4
    · have := hb (ev a b c q) hr.1 h4
      rw [show ev a b c q + 4 = (ev a b c q + 4) % 8 by omega] at this
      omega
    · have := hb (ev a b c q - 4) (by omega) (by omega)
      rw [show ev a b c q - 4 = (ev a b c q + 4) % 8 by omega, show (ev a b c q + 4) % 8 + 4 = ev a b c q by omega] at this
      omega
theorem in17 {s : Nat} (h1 : 1 ≤ s) (h7 : s ≤ 7) : s ∈ [1, 2, 3, 4, 5, 6, 7] := by simp; omega
theorem of17 {s : Nat} (h : s ∈ [4, 6, 2, 1, 3, 5]) : 1 ≤ s ∧ s ≤ 7 := by simp at h; omega
theorem bit01 {t : Int} (h : t = 0 ∨ t = 1) : t.toNat < 2 ∧ ((t.toNat : Nat) : Int) = t := by
  rcases h with rfl | rfl <;> decide
theorem bal_iff {t0 t1 t2 : Int} {e : Nat} (h0 : t0 = 0 ∨ t0 = 1) (h1 : t1 = 0 ∨ t1 = 1) (h2 : t2 = 0 ∨ t2 = 1) (he : e < 3) (a b c : Int) :
    (∀ s, 1 ≤ s → s ≤ 7 → Bal ((fAll t0 t1 t2 e s).map (ev a b c))) ↔ goodB t0 t1 t2 e = true := by
  have hf : formalB t0 t1 t2 e = true := by
    have g := formal_all ⟨t0.toNat, (bit01 h0).1⟩ ⟨t1.toNat, (bit01 h1).1⟩ ⟨t2.toNat, (bit01 h2).1⟩ ⟨e, he⟩
    have e0 := (bit01 h0).2
    have e1 := (bit01 h1).2
    have e2 := (bit01 h2).2
    simpa only [e0, e1, e2] using g
  unfold formalB at hf
  by_cases hg : goodB t0 t1 t2 e = true
  · rw [if_pos hg] at hf
    exact ⟨fun _ => hg, fun _ s g1 g7 => even_bal (List.all_eq_true.mp hf s (in17 g1 g7)) a b c⟩
  · rw [if_neg hg] at hf
    refine ⟨fun hall => ?_, fun h => absurd h hg⟩
    obtain ⟨s, hs, hi⟩ := List.any_eq_true.mp hf
    obtain ⟨i, _, ho⟩ := List.any_eq_true.mp hi
    exact absurd (hall s (of17 hs).1 (of17 hs).2) (odd_unbal ho a b c)
end Mine

open PySem PySem.W PySem.Calls PyProof.Rows
namespace Mine
def PR (ns : List Int) (b : Bool) (k : Nat) : Int := phaseR (bx k) (bY k) (bz k) ns b
def dl (ns : List Int) (b : Bool) (s : Nat) : List Int := (List.range (8 - s)).map fun k => (PR ns b (k + s) - PR ns b k).fmod 8
def DD (ns : List Int) (s : Nat) : List Int := dl ns false s ++ dl ns true s
theorem fmod_of (a : Int) (b : Int) (hb : 0 ≤ b) : a.fmod b = a % b := Int.fmod_eq_emod_of_nonneg a hb
def rawR (ns : List Int) (k : Nat) : Int := bx k * ns.getD 4 0 + bY k * ns.getD 5 0 + bz k * ns.getD 6 0 + 4 * (bx k * bY k * ns.getD 0 0 + bx k * bz k * ns.getD 1 0 + bY k * bz k * ns.getD 2 0)
theorem pick_tie (d3 : Int) (k : Nat) : pick (bx k) (bY k) (bz k) (d3.fmod 3) = tieAt (d3.fmod 3).toNat k := by
  have := fmod3 d3
  unfold pick tieAt
  have : d3.fmod 3 = 0 ∨ d3.fmod 3 = 1 ∨ d3.fmod 3 = 2 := by omega
  rcases this with e | e | e <;> rw [e] <;> rfl
theorem PR_false (ns : List Int) (k : Nat) : PR ns false k = (rawR ns k) % 24 + (ns.getD 7 0) % 8 := by
  unfold PR phaseR phaseS
  rw [if_neg (by decide), fmod_of _ 24 (by decide), fmod_of _ 8 (by decide)]
  rfl
theorem PR_true (ns : List Int) (k : Nat) : PR ns true k = (rawR ns k) % 24 + 4 * tieAt ((ns.getD 3 0).fmod 3).toNat k + (ns.getD 8 0) % 8 := by
  unfold PR phaseR phaseS
  rw [if_pos rfl, pick_tie, fmod_of _ 24 (by decide), fmod_of _ 8 (by decide)]
  rfl
theorem tie_range (e k : Nat) (hk : k < 8) : 0 ≤ tieAt e k ∧ tieAt e k ≤ 1 := by
  unfold tieAt bx bY bz
  split
  · omega
  · split <;> omega
theorem PR_range (ns : List Int) (b : Bool) (k : Nat) (hk : k < 8) : 0 ≤ PR ns b k ∧ PR ns b k < 35 := by
  cases b with
  | false => rw [PR_false]; omega
  | true =>
    have := tie_range ((ns.getD 3 0).fmod 3).toNat k hk
    rw [PR_true]; omega
theorem mul_mod2 (c t : Int) : (c * t) % 2 = (c * (t % 2)) % 2 := by
  rw [Int.mul_emod, Int.mul_emod c (t % 2), Int.emod_emod_of_dvd t (Int.dvd_refl 2)]
theorem sum_mod2 (a b c x y z : Int) (h1 : a % 2 = x % 2) (h2 : b % 2 = y % 2) (h3 : c % 2 = z % 2) : (a + b + c) % 2 = (x + y + z) % 2 := by omega
theorem qd_mod (d0 d1 d2 : Int) (k : Nat) (_hk : k < 8) : qd d0 d1 d2 k % 2 = qd (d0 % 2) (d1 % 2) (d2 % 2) k % 2 :=
  sum_mod2 _ _ _ _ _ _ (mul_mod2 _ _) (mul_mod2 _ _) (mul_mod2 _ _)
theorem rawR_diff (ns : List Int) (k j : Nat) : rawR ns j - rawR ns k = ((bx j - bx k) * ns.getD 4 0 + (bY j - bY k) * ns.getD 5 0 + (bz j - bz k) * ns.getD 6 0) + 4 * (qd (ns.getD 0 0) (ns.getD 1 0) (ns.getD 2 0) j - qd (ns.getD 0 0) (ns.getD 1 0) (ns.getD 2 0) k) := by
  unfold rawR qd
  simp only [Int.sub_mul]
  omega
theorem dm1 (x y p q c : Int) : (x % 24 + 4 * p + c - (y % 24 + 4 * q + c)) % 8 = (x - y + 4 * (p - q)) % 8 := by omega
theorem dm2 (u qa qb qc qe p q : Int) (h1 : qa % 2 = qc % 2) (h2 : qb % 2 = qe % 2) : (u + 4 * (qb - qa) + 4 * (p - q)) % 8 = (u + 4 * ((qe + qc + (p + q)) % 2)) % 8 := by omega
theorem diff_is (ns : List Int) (b : Bool) (s k : Nat) (hk : k + s < 8) :
    (PR ns b (k + s) - PR ns b k).fmod 8 = ev (ns.getD 4 0) (ns.getD 5 0) (ns.getD 6 0) (fOne ((ns.getD 0 0) % 2) ((ns.getD 1 0) % 2) ((ns.getD 2 0) % 2) ((ns.getD 3 0).fmod 3).toNat s (if b = true then 1 else 0) k) := by
  rw [fmod_of _ 8 (by decide)]
  have hd := rawR_diff ns k (k + s)
  have q1 := qd_mod (ns.getD 0 0) (ns.getD 1 0) (ns.getD 2 0) k (by omega)
  have q2 := qd_mod (ns.getD 0 0) (ns.getD 1 0) (ns.getD 2 0) (k + s) hk
  unfold ev fOne
  dsimp only
  generalize (bx (k + s) - bx k) * ns.getD 4 0 + (bY (k + s) - bY k) * ns.getD 5 0 + (bz (k + s) - bz k) * ns.getD 6 0 = u at *
  generalize qd (ns.getD 0 0) (ns.getD 1 0) (ns.getD 2 0) k = qa at *
  generalize qd (ns.getD 0 0) (ns.getD 1 0) (ns.getD 2 0) (k + s) = qb at *
  generalize qd ((ns.getD 0 0) % 2) ((ns.getD 1 0) % 2) ((ns.getD 2 0) % 2) k = qc at *
  generalize qd ((ns.getD 0 0) % 2) ((ns.getD 1 0) % 2) ((ns.getD 2 0) % 2) (k + s) = qe at *
  cases b with
  | false =>
    rw [PR_false, PR_false, if_neg (by decide)]
    have h := dm1 (rawR ns (k + s)) (rawR ns k) 0 0 (ns.getD 7 0 % 8)
    rw [hd, dm2 u qa qb qc qe 0 0 q1 q2] at h
    simpa using h
  | true =>
    rw [PR_true, PR_true, if_pos rfl]
    generalize tieAt ((ns.getD 3 0).fmod 3).toNat (k + s) = ta
    generalize tieAt ((ns.getD 3 0).fmod 3).toNat k = tb
    have h := dm1 (rawR ns (k + s)) (rawR ns k) ta tb (ns.getD 8 0 % 8)
    rw [hd, dm2 u qa qb qc qe ta tb q1 q2] at h
    rw [Int.one_mul]
    exact h
theorem dl_is (ns : List Int) (b : Bool) (s : Nat) : dl ns b s = ((List.range (8 - s)).map (fOne ((ns.getD 0 0) % 2) ((ns.getD 1 0) % 2) ((ns.getD 2 0) % 2) ((ns.getD 3 0).fmod 3).toNat s (if b = true then 1 else 0))).map (ev (ns.getD 4 0) (ns.getD 5 0) (ns.getD 6 0)) := by
  unfold dl
  rw [List.map_map]
  refine List.map_congr_left fun k hk => ?_
  exact diff_is ns b s k (by simp at hk; omega)
theorem DD_is (ns : List Int) (s : Nat) : DD ns s = (fAll ((ns.getD 0 0) % 2) ((ns.getD 1 0) % 2) ((ns.getD 2 0) % 2) ((ns.getD 3 0).fmod 3).toNat s).map (ev (ns.getD 4 0) (ns.getD 5 0) (ns.getD 6 0)) := by
  unfold DD fAll
  rw [dl_is, dl_is, List.map_append]
  rfl
theorem DD_range (ns : List Int) (s : Nat) : ∀ x ∈ DD ns s, 0 ≤ x ∧ x < 8 := by
  intro x hx
  rw [DD_is] at hx
  obtain ⟨q, _, rfl⟩ := List.mem_map.mp hx
  exact ev_range _ _ _ q
theorem plain_law (ns : List Int) : (∀ s, 1 ≤ s → s ≤ 7 → Bal (DD ns s)) ↔ goodB ((ns.getD 0 0) % 2) ((ns.getD 1 0) % 2) ((ns.getD 2 0) % 2) ((ns.getD 3 0).fmod 3).toNat = true := by
  have h3 := fmod3 (ns.getD 3 0)
  simp only [DD_is]
  exact bal_iff (by omega) (by omega) (by omega) (by omega) _ _ _
/-- the half of a sorted row -/
theorem half_bal {ks D : List Int} {r : Nat} (hs : ks.Pairwise (· ≤ ·)) (hp : ks.Perm D) (hD : ∀ x ∈ D, 0 ≤ x ∧ x < 8) (h1 : ∀ x ∈ ks.take r, x < 4) (h2 : ∀ x ∈ ks.drop r, 4 ≤ x) :
    (ks.take r).map (· + 4) = ks.drop r ↔ Bal D := by
  have hks : ∀ x ∈ ks, 0 ≤ x ∧ x < 8 := fun x hx => hD x (hp.mem_iff.mp hx)
  have hc : ∀ v, D.count v = (ks.take r).count v + (ks.drop r).count v := fun v => by
    rw [← hp.count_eq v, ← List.count_append, List.take_append_drop]
  have hm : ∀ v, ((ks.take r).map (· + 4)).count (v + 4) = (ks.take r).count v := fun v => by
    rw [List.count_eq_countP, List.countP_map, List.count_eq_countP]
    refine List.countP_congr fun x _ => ?_
    simp only [Function.comp_apply, beq_iff_eq]
    omega
  have z1 : ∀ v, 4 ≤ v → (ks.take r).count v = 0 := fun v hv => List.count_eq_zero.mpr fun hx => by have := h1 v hx; omega
  have z2 : ∀ v, v < 4 → (ks.drop r).count v = 0 := fun v hv => List.count_eq_zero.mpr fun hx => by have := h2 v hx; omega
  constructor
  · intro he v h0 h4
    rw [hc, hc, z2 v h4, z1 (v + 4) (by omega), ← he, hm]
    omega
  · intro hb
    refine List.Perm.eq_of_pairwise (le := (· ≤ ·)) (fun a b _ _ h h' => Int.le_antisymm h h') ?_ (hs.drop) (List.perm_iff_count.mpr fun v => ?_)
    · rw [List.pairwise_map]
      exact (hs.take).imp fun h => by omega
    · by_cases hv : 4 ≤ v ∧ v < 8
      · have e := hb (v - 4) (by omega) (by omega)
        have e2 := hm (v - 4)
        rw [hc, hc, z2 (v - 4) (by omega)] at e
        rw [show v - 4 + 4 = v by omega] at e e2
        rw [z1 v (by omega)] at e
        rw [e2]
        omega
      · rw [List.count_eq_zero.mpr, List.count_eq_zero.mpr]
        · intro hx
          have a := h2 v hx
          have b := hks v (List.mem_of_mem_drop hx)
          omega
        · intro hx
          obtain ⟨x, hx', rfl⟩ := List.mem_map.mp hx
          have a := h1 x hx'
          have b := hks x (List.mem_of_mem_take hx')
          omega
end Mine

open PySem PySem.W PySem.Calls PyProof.Rows
namespace Mine
section
variable {prog : Program} {w : World} {A : Around} {E : Value → Shared → Prop} {env : Env} {s : Shared} {h₀ : Heap} {L : Addr} {m : Str → Option Value} {news : List (Addr × Obj)}

theorem paired_of {α β : Type} {F : α → β → Prop} : ∀ {l₁ : List α} {l₂ : List β}, Paired F l₁ l₂ → l₁.length = l₂.length ∧ ∀ (j : Nat) (a : α) (b : β), l₁[j]? = some a → l₂[j]? = some b → F a b
  | _, _, .nil => ⟨rfl, fun j a b h => by simp at h⟩
  | _, _, .cons h t => by
    have ih := paired_of t
    refine ⟨by simp [ih.1], fun j a b ha hb => ?_⟩
    cases j with
    | zero => simp at ha hb; subst ha; subst hb; exact h
    | succ j => simp at ha hb; exact ih.2 j a b ha hb

def GF (n : Nat) (G : Nat → Value → Prop) (v y : Value) : Prop := ∀ k : Nat, k < n → (∃ t, v = .int (k : Int) t) → G k y

def EltEnd (G : Nat → Value → Prop) (k : Nat) (s₃ : Shared) (y : Value) (s₄ : Shared) : Prop := G k y ∧ Keeps s₃ s₄
theorem EltEnd.mk {G : Nat → Value → Prop} {k : Nat} {s₃ : Shared} {y : Value} {h' : Heap} {tk : Nat} (g : G k y) (i : InElt s₃.heap h') : EltEnd G k s₃ y { s₃ with heap := h', toks := tk } := ⟨g, h', tk, rfl, i⟩
theorem InElt.trans {a b c : Heap} (h : InElt a b) (k : InElt b c) : InElt a c := fun x o e => k x o (h x o e)
def CompAt (prog : Program) (w : World) (A : Around) (env : Env) (scope : Scope) (cl : List (Str × Addr)) (x : Str) (elt : Expr) (n : Nat) (G : Nat → Value → Prop) (Q : Value → Shared → Prop) (it : Value) (s₂ : Shared) : Prop :=
  ∃ I fp wr n' P St, it = .ref I ∧ Walks prog w A I fp wr n' P St ∧ n' ≤ sizeLine ∧ St 0 s₂.heap ∧ (∀ b ∈ fp, b < s₂.heap.objs.size) ∧
      QuietOnC prog w A env scope cl x [] elt wr P (fun _ => true) (GF n G) s₂ ∧
      (∀ D h' tk ys (vs : List Value), s₂.heap.get? D = none → h'.IsList D ys → h'.PlainList D ys → vs.length = n' → (∀ j v, vs[j]? = some v → P j v) → Paired (GF n G) (vs.filter (fun _ => true)) ys.toList →
        (∀ b o, b ∉ wr → s₂.heap.get? b = some o → h'.get? b = some o) → Q (.ref D) { s₂ with heap := h', toks := tk })

/-- [elt for x in range(n)], elt reading only -/
theorem comp_range {Q : Value → Shared → Prop} {r : Addr} {n : Nat} {t₀ u₀ v₀ : Tok} {elt : Expr} {scope : Scope} {cl : List (Str × Addr)} {x : Str} (G : Nat → Value → Prop)
    (hh : A.handled = none) (hr : IsRange s.heap r 0 (n : Int) 1 t₀ u₀ v₀) (hsmall : Builtin.Range.small 0 (n : Int) 1 = true) (hn : Builtin.Range.rangeSize 0 (n : Int) 1 = (n : Int)) (hz : n ≤ sizeLine)
    (F : Fr h₀ L s.heap m) (N : News h₀ L s.heap news)
    (helt : ∀ C (k : Nat) t s₃ m₃ E', k < n → s₃.heap.Ns C m₃ → m₃ x = some (.int (k : Int) t) → Fr h₀ L s₃.heap m → News h₀ L s₃.heap news → InElt s₃.heap s₃.heap → s.toks ≤ s₃.toks →
      wpAny (model prog w) A (eval elt (compEnvC scope cl C env)) (fun y s₄ => EltEnd G k s₃ y s₄) E' s₃)
    (done : ∀ D h' tk (ys : List Value) n', (∀ p ∈ news, @Ne Nat p.1 D) → Fr h₀ L h' m → News h₀ L h' ((D, listOf ys.toArray n') :: news) → ys.length = n → (∀ (k : Nat) y, k < n → ys[k]? = some y → G k y) → Q (.ref D) { s with heap := h', toks := tk }) :
    wpAny (model prog w) A (pyIter (.ref r)) (fun it s₂ => CompAt prog w A env scope cl x elt n G Q it s₂) E s := by
  refine wpAny_pyIter_range hr hsmall ?_
  have W := (Walks.range (prog := prog) (w := w) hh s.heap.objs.size 0 1 n).bound
  have grow : ∀ h' : Heap, (∀ b o, b ∉ [s.heap.objs.size] → (s.heap.push { cls := .type "range_iterator", data := .fields #[rawInt 0, rawInt (Builtin.Range.rangeSize 0 (n : Int) 1), rawInt 1] }).get? b = some o → h'.get? b = some o) → InElt s.heap h' := fun h' hk b o e =>
    hk b o (fun hb => by rw [List.mem_singleton.mp hb] at e; exact absurd (Heap.lt_size e) (Nat.lt_irrefl _)) (Heap.get?_push_of_some _ e)
  refine ⟨s.heap.objs.size, _, _, n, _, _, rfl, W, hz, ?_, ?_, ?_, ?_⟩
  · show IsRangeIter _ _ _ _ _
    rw [hn]; simpa using Heap.get?_push_size _ rfl
  · intro b hb
    rw [List.mem_singleton.mp hb, Heap.size_push]
    exact Nat.lt_succ_self _
  · refine ⟨fun C i v s₃ m₃ E' _ _ _ _ _ _ => ?_, fun C i v s₃ m₃ E' hC hP _ hns hm hk htk => ?_⟩
    · exact wpAny_pure ⟨rfl, _, _, rfl, fun _ _ e => e⟩
    · obtain ⟨hi, t, rfl⟩ := hP
      have e1 : (0 : Int) + (i : Int) * 1 = (i : Int) := by omega
      rw [e1] at hm ⊢
      have g := grow _ hk
      refine wpAny_mono (helt C i t s₃ m₃ E' hi hns hm (F.keeps g) (N.grown g) (InElt.start _) htk) (fun y s₄ h => ⟨fun k _ hk => ?_, h.2⟩) fun _ _ e => e
      obtain ⟨t', ht⟩ := hk
      have : (i : Int) = (k : Int) := by injection ht
      have e2 : i = k := by omega
      exact e2 ▸ h.1
  · intro D h' tk ys vs hD hl hpl hlen hP hF hk
    have g := grow _ hk
    obtain ⟨n', ho⟩ := hpl
    have hF' := paired_of hF
    rw [List.filter_eq_self.mpr (fun _ _ => rfl)] at hF'
    have hDn : ∀ o, s.heap.get? D ≠ some o := fun o e => by
      have := Heap.get?_push_of_some { cls := .type "range_iterator", data := .fields #[rawInt 0, rawInt (Builtin.Range.rangeSize 0 (n : Int) 1), rawInt 1] } e
      rw [hD] at this; cases this
    refine done D h' tk ys.toList n' (fun p hp e => hDn _ (e ▸ (N p hp).1)) (F.keeps g) ?_ ?_ ?_
    · intro p hp
      rcases List.mem_cons.mp hp with rfl | hp
      · refine ⟨by simpa [PySem.W.listOf] using ho, ?_, ?_⟩
        · rintro rfl
          obtain ⟨o, _, _, ho, _⟩ := F.ns
          exact hDn _ ho
        · cases e : h₀.get? D with
          | none => rfl
          | some o => exact absurd (F.keep _ _ e) (hDn _)
      · exact N.grown g p hp
    · rw [← hF'.1, hlen]
    · intro k y hkn hy
      have hlt : k < vs.length := by omega
      have hv : vs[k]? = some vs[k] := List.getElem?_eq_getElem hlt
      obtain ⟨_, t, e⟩ := hP k _ hv
      refine hF'.2 k _ y hv hy k hkn ⟨t, ?_⟩
      rw [e]
      have e1 : (0 : Int) + (k : Int) * 1 = (k : Int) := by omega
      exact congrArg (Value.int · t) e1

def GTold (ns : List Int) (b : Bool) (k : Nat) (y : Value) : Prop := ∃ t, y = .float (eighth (PR ns b k % 8).toNat) t
def GPlain (ns : List Int) (b : Bool) (k : Nat) (y : Value) : Prop := ∃ t, y = .int (PR ns b k) t
theorem told_comp {ns : List Int} {o : Obj} {b : Bool} {elt iter : Expr} {x : Str} {px : Pos} {scope : Scope} {cl : List (Str × Addr)} {pos : Pos} {Q : Value → Shared → Prop} (_ok : DrawnOk ns) (_hb : o.data = .cell (some (.bool b)))
    (hclos : closureFor scope env = pure cl) (hcell : ∀ y ∈ scope.names, y.2 ≠ .cell) (hkind : scope.kind = .function)
    (hnames : ∀ y ∈ scope.names, y.2 = .local → scope.names.lookup y.1 = some .local) (hx : scope.names.lookup x = some .local)
    (h : wpAny (model prog w) A (eval iter env) (fun xv s₁ => wpAny (model prog w) A (pyIter xv) (fun it s₂ => CompAt prog w A env scope cl x elt 8 (GTold ns b) Q it s₂) E s₁) E s)
    (hs : ∀ x, foldedSetIterable iter env x = pure x) :
    wpAny (model prog w) A (eval (.ListComp elt [⟨.Name x px, iter, [], 0⟩] scope pos) env) Q E s := wpAny_ListComp_free (fun _ => true) (GF 8 (GTold ns b)) hclos hcell hkind hnames hx h hs
theorem plain_comp {ns : List Int} {o : Obj} {b : Bool} {elt iter : Expr} {x : Str} {px : Pos} {scope : Scope} {cl : List (Str × Addr)} {pos : Pos} {Q : Value → Shared → Prop} (_ok : DrawnOk ns) (_hb : o.data = .cell (some (.bool b)))
    (hclos : closureFor scope env = pure cl) (hcell : ∀ y ∈ scope.names, y.2 ≠ .cell) (hkind : scope.kind = .function)
    (hnames : ∀ y ∈ scope.names, y.2 = .local → scope.names.lookup y.1 = some .local) (hx : scope.names.lookup x = some .local)
    (h : wpAny (model prog w) A (eval iter env) (fun xv s₁ => wpAny (model prog w) A (pyIter xv) (fun it s₂ => CompAt prog w A env scope cl x elt 8 (GPlain ns b) Q it s₂) E s₁) E s)
    (hs : ∀ x, foldedSetIterable iter env x = pure x) :
    wpAny (model prog w) A (eval (.ListComp elt [⟨.Name x px, iter, [], 0⟩] scope pos) env) Q E s := wpAny_ListComp_free (fun _ => true) (GF 8 (GPlain ns b)) hclos hcell hkind hnames hx h hs
theorem newListE {vs : List Value} {Q : Value → Shared → Prop} {h₁ : Heap} (F : Fr h₀ L s.heap m) (N : News h₀ L s.heap news) (I : InElt h₁ s.heap)
    (h : ∀ l h', Fr h₀ L h' m → News h₀ L h' ((l, listOf vs.toArray 0) :: news) → (∀ p ∈ news, p.1 < l) → InElt h₁ h' → Q (.ref l) { s with heap := h' }) (hsz : vs.length ≤ sizeLine := by size_fits) : wpAny (model prog w) A (newList vs) Q E s :=
  newList_NK F N (fun h' F' N' k' => h _ h' F' N' (fun p hp => Heap.lt_size (N p hp).1) (fun b o e => k' b o (I b o e))) hsz
/-- the row of the eighths -/
theorem told_row {ns : List Int} {b : Bool} : ∀ {ys : List Value} {n : Nat}, ys.length = n → (∀ (k : Nat) y, k < n → ys[k]? = some y → GTold ns b k y) → PySem.Flt.FloatsAre ys ((List.range n).map fun k => eighth (PR ns b k % 8).toNat) := by
  intro ys n hl h
  subst hl
  have key : ∀ (ys : List Value) (i : Nat), (∀ (k : Nat) y, ys[k]? = some y → GTold ns b (i + k) y) → PySem.Flt.FloatsAre ys ((List.range' i ys.length).map fun k => eighth (PR ns b k % 8).toNat) := by
    intro ys
    induction ys with
    | nil => intro i _; exact .nil
    | cons y ys ih =>
      intro i hk
      obtain ⟨t, e⟩ := hk 0 y rfl
      rw [Nat.add_zero] at e
      subst e
      simp only [List.length_cons, List.range'_succ, List.map_cons]
      exact .cons _ _ (ih (i + 1) fun k y hy => by have := hk (k + 1) y (by simpa using hy); rwa [Nat.add_assoc, Nat.add_comm 1 k])
  rw [List.range_eq_range']
  exact key ys 0 fun k y hy => by
    have hlt : k < ys.length := (List.getElem?_eq_some_iff.mp hy).1
    rw [Nat.zero_add]
    exact h k y hlt hy
theorem plain_row {ns : List Int} {b : Bool} : ∀ {ys : List Value} {n : Nat}, ys.length = n → (∀ (k : Nat) y, k < n → ys[k]? = some y → GPlain ns b k y) → IntsAre ys ((List.range n).map fun k => PR ns b k) := by
  intro ys n hl h
  subst hl
  have key : ∀ (ys : List Value) (i : Nat), (∀ (k : Nat) y, ys[k]? = some y → GPlain ns b (i + k) y) → IntsAre ys ((List.range' i ys.length).map fun k => PR ns b k) := by
    intro ys
    induction ys with
    | nil => intro i _; exact .nil
    | cons y ys ih =>
      intro i hk
      obtain ⟨t, e⟩ := hk 0 y rfl
      rw [Nat.add_zero] at e
      subst e
      simp only [List.length_cons, List.range'_succ, List.map_cons]
      exact .cons _ _ (ih (i + 1) fun k y hy => by have := hk (k + 1) y (by simpa using hy); rwa [Nat.add_assoc, Nat.add_comm 1 k])
  rw [List.range_eq_range']
  exact key ys 0 fun k y hy => by
    have hlt : k < ys.length := (List.getElem?_eq_some_iff.mp hy).1
    rw [Nat.zero_add]
    exact h k y hlt hy
end

theorem bits_use {w : World} {mean : ExcName → Option Value} {mg mb : Str → Option Value}
   {dp un : Nat} {gd : Option (List Code)} {cn : Str} {cs : Scope} {a : Addr} {ccd : Value} {cl : List (Str × Addr)} {outer : List Env} {A₀ : Around} {base h₀ h₁ : Heap} {L : Addr} {m : Str → Option Value} {s : Shared} {Q E : Value → Shared → Prop} {news : List (Addr × Obj)} {k : Nat} {tp : Tok} (hk8 : k < 8)
   (B : Below A₀ base outer h₀) (F : Fr h₀ L s.heap m) (X : (hd.heap_39 w.params).In h₀) (N : News h₀ L s.heap news)
   (T : Top hd.view_39 (looseW hd.view_39 ["insort_left", "bisect_left"]) mean mg mb h₀) (hk : cs.kind = .function) (hd : dp + 6 < recursionLimit) (hu : un + 8 * 6 < cLine) (I : InElt h₁ s.heap)
   (h : ∀ D t1 t2 t3 n h' tk', Fr h₀ L h' m → News h₀ L h' ((D, listOf #[.int (k % 2 : Nat) t1, .int (k / 2 % 2 : Nat) t2, .int (k / 4 : Nat) t3] n) :: news) → (∀ p ∈ news, p.1 < D) → InElt h₁ h' → Q (.ref D) { s with heap := h', toks := tk' }) :
   wpAny (model PySem.Challenge.rw_sr0028_01.row.prog w) (ktrTop dp un gd cn cs L a ccd cl outer) (call (.ref 97) [.int (k : Int) tp]) Q E s :=
  ClK.use (bits_call hk8) B F X N T hk hd hu fun v news' h' tk' F' N' P' i' => by
    obtain ⟨D, t1, t2, t3, n, rfl, rfl, l⟩ := P'
    exact h D t1 t2 t3 n h' tk' F' N' l (InElt.trans I i')
theorem phase_use {w : World} {mean : ExcName → Option Value} {mg mb : Str → Option Value}
   {dp un : Nat} {gd : Option (List Code)} {cn : Str} {cs : Scope} {a : Addr} {ccd : Value} {cl : List (Str × Addr)} {outer : List Env} {A₀ : Around} {base h₀ h₁ : Heap} {L : Addr} {m : Str → Option Value} {s : Shared} {Q E : Value → Shared → Prop} {news : List (Addr × Obj)} {lb l : Addr} {t1 t2 t3 : Tok} {x y z : Int} {vs : List Value} {ns : List Int} {nb n : Nat} {b : Bool}
   (B : Below A₀ base outer h₀) (F : Fr h₀ L s.heap m) (X : (hd.heap_39 w.params).In h₀) (N : News h₀ L s.heap news)
   (T : Top hd.view_39 (looseW hd.view_39 ["insort_left", "bisect_left"]) mean mg mb h₀) (hk : cs.kind = .function) (hd : dp + 6 < recursionLimit) (hu : un + 8 * 6 < cLine) (I : InElt h₁ s.heap)
   (hb : (lb, listOf #[.int x t1, .int y t2, .int z t3] nb) ∈ news) (hx : x = 0 ∨ x = 1) (hy : y = 0 ∨ y = 1) (hz : z = 0 ∨ z = 1)
   (hl : (l, listOf vs.toArray n) ∈ news) (hi : IntsAre vs ns) (ok : DrawnOk ns)
   (h : ∀ t h' tk', Fr h₀ L h' m → News h₀ L h' news → InElt h₁ h' → Q (.int (phaseR x y z ns b) t) { s with heap := h', toks := tk' }) :
   wpAny (model PySem.Challenge.rw_sr0028_01.row.prog w) (ktrTop dp un gd cn cs L a ccd cl outer) (call (.ref 104) [.ref lb, .ref l, .bool b]) Q E s :=
  ClK.use (phase_call hb hx hy hz hl hi ok) B F X N T hk hd hu fun v news' h' tk' F' N' P' i' => by
    obtain ⟨t, rfl, rfl⟩ := P'
    exact h t h' tk' F' N' (InElt.trans I i')
theorem k_bits (k : Nat) : (k : Int).fmod 2 = ((k % 2 : Nat) : Int) ∧ ((k : Int).fdiv 2).fmod 2 = ((k / 2 % 2 : Nat) : Int) ∧ (k : Int).fdiv 4 = ((k / 4 : Nat) : Int) := by
  rw [Int.fmod_eq_emod_of_nonneg _ (by decide), Int.fmod_eq_emod_of_nonneg _ (by decide), Int.fdiv_eq_ediv_of_nonneg _ (by decide), Int.fdiv_eq_ediv_of_nonneg _ (by decide)]
  omega
theorem phase_useK {w : World} {mean : ExcName → Option Value} {mg mb : Str → Option Value}
   {dp un : Nat} {gd : Option (List Code)} {cn : Str} {cs : Scope} {a : Addr} {ccd : Value} {cl : List (Str × Addr)} {outer : List Env} {A₀ : Around} {base h₀ h₁ : Heap} {L : Addr} {m : Str → Option Value} {s : Shared} {Q E : Value → Shared → Prop} {news : List (Addr × Obj)} {lb l : Addr} {t1 t2 t3 : Tok} {k : Nat} {vs : List Value} {ns : List Int} {nb n : Nat} {b : Bool}
   (B : Below A₀ base outer h₀) (F : Fr h₀ L s.heap m) (X : (hd.heap_39 w.params).In h₀) (N : News h₀ L s.heap news)
   (T : Top hd.view_39 (looseW hd.view_39 ["insort_left", "bisect_left"]) mean mg mb h₀) (hk : cs.kind = .function) (hd : dp + 6 < recursionLimit) (hu : un + 8 * 6 < cLine) (I : InElt h₁ s.heap)
   (hb : (lb, listOf #[.int ((k : Int).fmod 2) t1, .int (((k : Int).fdiv 2).fmod 2) t2, .int ((k : Int).fdiv 4) t3] nb) ∈ news) (hk8 : k < 8)
   (hl : (l, listOf vs.toArray n) ∈ news) (hi : IntsAre vs ns) (ok : DrawnOk ns)
   (h : ∀ t h' tk', Fr h₀ L h' m → News h₀ L h' news → InElt h₁ h' → Q (.int (PR ns b k) t) { s with heap := h', toks := tk' }) :
   wpAny (model PySem.Challenge.rw_sr0028_01.row.prog w) (ktrTop dp un gd cn cs L a ccd cl outer) (call (.ref 104) [.ref lb, .ref l, .bool b]) Q E s :=
  by
    obtain ⟨e1, e2, e3⟩ := k_bits k
    rw [e1, e2, e3] at hb
    exact phase_use B F X N T hk hd hu I hb (by omega) (by omega) (by omega) hl hi ok h
theorem told_use {w : World} {mean : ExcName → Option Value} {mg mb : Str → Option Value}
   {dp un : Nat} {gd : Option (List Code)} {cn : Str} {cs : Scope} {a : Addr} {ccd : Value} {cl : List (Str × Addr)} {outer : List Env} {A₀ : Around} {base h₀ h₁ : Heap} {L : Addr} {m : Str → Option Value} {s : Shared} {Q E : Value → Shared → Prop} {news : List (Addr × Obj)} {l : Addr} {p : Int} {tp : Tok} {vs : List Value} {ns : List Int} {n : Nat} {b : Bool}
   (B : Below A₀ base outer h₀) (F : Fr h₀ L s.heap m) (X : (hd.heap_39 w.params).In h₀) (N : News h₀ L s.heap news)
   (T : Top hd.view_39 (looseW hd.view_39 ["insort_left", "bisect_left"]) mean mg mb h₀) (hk : cs.kind = .function) (hd : dp + 6 < recursionLimit) (hu : un + 8 * 6 < cLine) (I : InElt h₁ s.heap)
   (hl : (l, listOf vs.toArray n) ∈ news) (hi : IntsAre vs ns) (hn : ns.length = 10) (h0 : 0 ≤ p) (h1 : p < 35)
   (h : ∀ t h' tk', Fr h₀ L h' m → News h₀ L h' news → InElt h₁ h' → Q (.float (eighth (p % 8).toNat) t) { s with heap := h', toks := tk' }) :
   wpAny (model PySem.Challenge.rw_sr0028_01.row.prog w) (ktrTop dp un gd cn cs L a ccd cl outer) (call (.ref 111) [.int p tp, .ref l, .bool b]) Q E s :=
  ClK.use (told_call hl hi hn h0 h1) B F X N T hk hd hu fun v news' h' tk' F' N' P' i' => by
    obtain ⟨t, rfl, rfl⟩ := P'
    exact h t h' tk' F' N' (InElt.trans I i')
theorem drawn_use {w : World} {mean : ExcName → Option Value} {mg mb : Str → Option Value}
   {dp un : Nat} {gd : Option (List Code)} {cn : Str} {cs : Scope} {a : Addr} {ccd : Value} {cl : List (Str × Addr)} {outer : List Env} {A₀ : Around} {base h₀ : Heap} {L : Addr} {m : Str → Option Value} {s : Shared} {Q E : Value → Shared → Prop} {news : List (Addr × Obj)} {l : Addr} {vs : List Value} {ns : List Int}
   (B : Below A₀ base outer h₀) (F : Fr h₀ L s.heap m) (X : (hd.heap_39 w.params).In h₀) (N : News h₀ L s.heap news)
   (T : Top hd.view_39 (looseW hd.view_39 ["insort_left", "bisect_left"]) mean mg mb h₀) (hk : cs.kind = .function) (hd : dp + 6 < recursionLimit) (hu : un + 8 * 6 < cLine)
   (hL : base.IsList l vs.toArray) (hI : IntsAre vs ns) (h63 : ns.length ≤ 63)
   (h : ∀ D vs' n' ns' h' tk', Fr h₀ L h' m → News h₀ L h' ((D, listOf vs'.toArray n') :: news) → (∀ p ∈ news, p.1 < D) → IntsAre vs' ns' → DrawnOk ns' → Q (.ref D) { s with heap := h', toks := tk' }) :
   wpAny (model PySem.Challenge.rw_sr0028_01.row.prog w) (ktrTop dp un gd cn cs L a ccd cl outer) (call (.ref 90) [.ref l]) Q E s :=
  drawn_call B F X N T hk hd hu hL hI h63 fun v news' h' tk' F' N' P' => by
    obtain ⟨D, vs', n', ns', rfl, rfl, l, hi, ok⟩ := P'
    exact h D vs' n' ns' h' tk' F' N' l hi ok
end Mine

open PySem PySem.W PySem.Calls PyProof.Rows
namespace Mine
/-- floats of the eighths -/
theorem f_diff : ∀ a < 8, ∀ b < 8, (Float64.divmod (Float64.sub (eighth a) (eighth b)) 4607182418800017408).2 = eighth ((a + 8 - b) % 8) := by decide +kernel
theorem f_cmp : ∀ a < 8, ∀ b < 8, Float64.cmp (eighth a) (eighth b) = some (compare a b) := by decide +kernel
theorem f_half : (4602678819172646912 : UInt64) = eighth 4 := by decide +kernel
theorem f_add : ∀ a < 4, Float64.add (eighth a) 4602678819172646912 = eighth (a + 4) := by decide +kernel
theorem f_add_all : ∀ a < 8, Float64.isNaN (Float64.add (eighth a) 4602678819172646912) = false := by decide +kernel
end Mine

open PySem PySem.W PySem.Calls PyProof.Rows
namespace Mine
section
variable {A : Around} {s : Shared}
theorem eqAt_fi (a : UInt64) (t : Tok) (n : Int) (u : Tok) : SeqAt.EqAt A s (.float a t) (.int n u) (Float64.cmpInt a n == some Ordering.eq) := fun prog w E Q h => by
  unfold eqBool
  refine wpAny_holding ?_
  refine wpAny_ite_split (fun hab => absurd (eq_of_beq hab) nofun) (fun _ => ?_)
  exact wpAny_bind (eq_fi (wpAny_truthy_bool h))

theorem isSame_ff {M : Model} {E : Value → Shared → Prop} {Q : Bool → Shared → Prop} {a b : UInt64} {t u : Tok} (h0 : (t == 0 || u == 0) = false) (hne : (t == u) = false) (hb : NoneBooked s.heap)
    (hq : ∀ r, (r = true → (a == b) = true) → Q r s) : wpAny M A (isSame (.float a t) (.float b u)) Q E s := by
  show wpAny M A (isSame.created (a == b && !Float64.isNaN a) t u) Q E s
  unfold isSame.created
  refine wpAny_ite ?_
  split
  · rename_i h; rw [h0] at h; exact absurd h Bool.false_ne_true
  refine wpAny_ite ?_
  split
  · rename_i h; rw [hne] at h; exact absurd h Bool.false_ne_true
  refine wpAny_ite ?_
  split
  · exact wpAny_pure (hq _ (fun h => absurd h Bool.false_ne_true))
  rename_i heq
  have hab : (a == b) = true := by
    cases e : (a == b) with
    | true => rfl
    | false => rw [e] at heq; simp at heq
  refine wpAny_bind (wpAny_sharingNotTold_none hb ?_)
  first | rw [if_neg Bool.false_ne_true] | simp only [Bool.false_eq_true, if_false]
  refine wpAny_bind (wpAny_sharingNotTold_none hb ?_)
  first | rw [if_neg Bool.false_ne_true] | simp only [Bool.false_eq_true, if_false]
  exact wpAny_bind (wpAny_rule (wpAny_bind (wpAny_askSetting (wpAny_pure (hq _ (fun _ => hab))))))

theorem eqAt_ff (a : UInt64) (t : Tok) (b : UInt64) (u : Tok) (h0 : (t == 0 || u == 0) = false) (hne : (t == u) = false) (hb : NoneBooked s.heap) (hs : (a == b) = true → (Float64.cmp a b == some Ordering.eq) = true) :
    SeqAt.EqAt A s (.float a t) (.float b u) (Float64.cmp a b == some Ordering.eq) := fun prog w E Q h => by
  unfold eqBool
  refine wpAny_holding ?_
  refine wpAny_ite_split (fun hab => ?_) (fun _ => ?_)
  · have e := eq_of_beq hab
    injection e with e1 e2
    rw [e2] at hne
    simp at hne
  · refine wpAny_bind (isSame_ff h0 hne hb fun r hr => ?_)
    cases r with
    | true =>
      rw [hs (hr rfl)] at h
      exact wpAny_pure h
    | false => exact wpAny_bind (AutoFloatOps.eq_0 (wpAny_truthy_bool h))
end
end Mine

open PySem PySem.W PySem.Calls PyProof.Rows
namespace Mine
/-- what a turn of a loop hands on, with the count of tokens -/
def StepT (h₀ : Heap) (L I : Addr) (own : List (Addr × Obj)) (Jn : (Str → Option Value) → List (Addr × Obj) → Nat → Prop) (s₁ : Shared) (Q : Flow → Shared → Prop) (f : Flow) (s₂ : Shared) : Prop :=
  match f with
  | .ret v => Q (.ret v) s₂
  | .brk => Q .next s₂
  | _ => ∃ h' tk m' news', s₂ = { s₁ with heap := h', toks := tk } ∧ Fr h₀ L h' m' ∧ News h₀ L h' (own ++ news') ∧ (∀ p ∈ news', p.1 ≠ I) ∧ Jn m' news' tk
section
variable {prog : Program} {w : World} {A : Around} {E : Value → Shared → Prop} {env : Env} {s : Shared} {h₀ : Heap} {m : Str → Option Value} {news : List (Addr × Obj)} {x : Str} {px pos : Pos} {body : List Stmt} {iter : Expr} {Q : Flow → Shared → Prop}

def RangeT (prog : Program) (w : World) (A : Around) (h₀ : Heap) (env : Env) (x : Str) (body : List Stmt) (Q : Flow → Shared → Prop) (E : Value → Shared → Prop) (r : Value) (s : Shared) : Prop :=
  ∃ (ra : Addr) (a b : Int) (n : Nat) (t u v : Tok) (m : Str → Option Value) (news : List (Addr × Obj)) (J : Nat → (Str → Option Value) → List (Addr × Obj) → Nat → Prop),
    r = .ref ra ∧ IsRange s.heap ra a b 1 t u v ∧ Builtin.Range.small a b 1 = true ∧ Builtin.Range.rangeSize a b 1 = (n : Int) ∧ A.handled = none ∧ Fr h₀ env.locals s.heap m ∧ News h₀ env.locals s.heap news ∧ J 0 m news s.toks ∧
    (∀ i m' n' tk tk', J i m' n' tk → tk ≤ tk' → J i m' n' tk') ∧
    (∀ (I : Addr) (it : Obj) (i : Nat) t m₁ news₁ h₁ tk₁, (∀ p ∈ news, p.1 < I) → i < n → J i m₁ news₁ tk₁ → (∀ p ∈ news₁, p.1 ≠ I) →
      Fr h₀ env.locals h₁ (fun y => if y = x then some (.int (a + (i : Int)) t) else m₁ y) → News h₀ env.locals h₁ ((I, it) :: news₁) →
      wpAny (model prog w) A (execs body env) (StepT h₀ env.locals I [(I, it)] (J (i + 1)) { s with heap := h₁, toks := tk₁ } Q) E { s with heap := h₁, toks := tk₁ }) ∧
    ∀ h' tk m' news', Fr h₀ env.locals h' m' → News h₀ env.locals h' news' → J n m' news' tk → Q .next { s with heap := h', toks := tk }

def RangeTL (n₀ : Nat) (prog : Program) (w : World) (A : Around) (h₀ : Heap) (env : Env) (x : Str) (body : List Stmt) (Q : Flow → Shared → Prop) (E : Value → Shared → Prop) (r : Value) (s : Shared) : Prop :=
  n₀ ≤ s.toks → RangeT prog w A h₀ env x body Q E r s

theorem For_rangeT (F₀ : Fr h₀ env.locals s.heap m) (hx : env.kindOf x = some .local)
    (hp : (env.scope.kind == .class || (env.scope.kind == .module && env.locals != env.globals)) = false)
    (h : wpAny (model prog w) A (eval iter env) (fun xv s₁ => RangeTL s.toks prog w A h₀ env x body Q E xv s₁) E s)
    (hs : ∀ x, foldedSetIterable iter env x = pure x := by intro _; rfl)
    (hE : PassesOwn (model prog w) A env E := by passes_own) :
    wpAny (model prog w) A (exec (.For (.Name x px) iter body [] pos) env) Q E s := by
  refine wpAny_For (wpAny_mono (wpAny_with_toks (n := s.toks) (Q := fun xv s₁ => RangeT prog w A h₀ env x body Q E xv s₁) (Nat.le_refl _) (wpAny_mono h (fun _ _ q => q) (fun _ _ e _ => e))) (fun xv s₁ h₁ => ?_) fun _ _ e => e) hs
  obtain ⟨ra, a, b, n, t, u, v, m, news, J, rfl, hr, hsmall, hn, hh, F, N, h0, up, step, hQ⟩ := h₁
  refine wpAny_pyIter_range hr hsmall ?_
  have W : Walks prog w A s₁.heap.objs.size [s₁.heap.objs.size] [s₁.heap.objs.size] n (fun i v => ∃ t, v = .int (a + i * 1) t)
      (fun i h => IsRangeIter h s₁.heap.objs.size (a + (i : Nat) * 1) ((n : Int) - (i : Nat)) 1) := Walks.range hh _ a 1 n
  have hnew := next_is_new F
  have hLI : env.locals ≠ s₁.heap.objs.size := fun e => Nat.lt_irrefl _ (e ▸ F.ns.lt)
  have nI : ∀ p ∈ news, p.1 < s₁.heap.objs.size := fun p hp => Heap.lt_size (N p hp).1
  generalize hI : s₁.heap.objs.size = I at W hnew hLI nI ⊢
  refine codeAny_forLoop (R := fun r s' => match r with | .ok f => Q f s' | .error e => cameBackBy (model prog w) A env E e s')
    (fun k s' => ∃ h' tk m' news' i, s' = { s₁ with heap := h', toks := tk } ∧ IsRangeIter h' I (a + (i : Nat) * 1) ((n : Int) - (i : Nat)) 1 ∧ Fr h₀ env.locals h' m' ∧ News h₀ env.locals h' news' ∧ (∀ p ∈ news', p.1 ≠ I) ∧ J i m' news' tk ∧ i ≤ n ∧ k = n + 1 - i) ?_ (n + 1)
    ⟨_, s₁.toks, m, news, 0, rfl, ?_, F.push _, (fun p hp => ⟨Heap.get?_push_of_some _ (N p hp).1, (N p hp).2⟩), (fun p hp => Nat.ne_of_lt (nI p hp)), h0, Nat.zero_le _, rfl⟩
  · rintro k s' ⟨h', tk, m', news', i, rfl, hst', F', N', hnw', hJ, hi, rfl⟩
    have old : ∀ b o, h₀.get? b = some o → b ∉ [I] := fun b o e hb => by rw [List.mem_singleton.mp hb, hnew] at e; cases e
    have next : ∀ h₁ : Heap, (∀ b o, b ∉ [I] → h'.get? b = some o → h₁.get? b = some o) → Fr h₀ env.locals h₁ m' ∧ News h₀ env.locals h₁ news' := fun h₁ hk₁ =>
      ⟨⟨F'.ns.at' fun o e => hk₁ _ o (by simpa using hLI) e, fun b o e => hk₁ b o (old b o e) (F'.keep b o e), F'.above⟩, fun p hp => ⟨hk₁ _ _ (by simpa using hnw' p hp) (N' p hp).1, (N' p hp).2⟩⟩
    by_cases hlt : i < n
    · refine wpAny_with_toks (n := tk) (Nat.le_refl _) (W.item i _ _ _ hlt hst' fun v h₁ tk₁ hP hst₁ hk₁ htk => ?_)
      obtain ⟨t, rfl⟩ := hP
      obtain ⟨F₁, N₁⟩ := next h₁ hk₁
      have e1 : a + (i : Int) * 1 = a + (i : Int) := by omega
      rw [e1]
      refine wpAny_assign_Name (wpAny_storeName_local hx F₁.ns (fun h₂ hn₂ hs₂ => ?_) hp)
      have F₂ := F₁.set hn₂ hs₂
      have hit : h₂.get? I = some _ := (hs₂.2 I (Ne.symm hLI)).trans hst₁
      have NI : News h₀ env.locals h₂ ((I, _) :: news') := fun p hp => by
        rcases List.mem_cons.mp hp with rfl | hp
        · exact ⟨hit, Ne.symm hLI, hnew⟩
        · exact (N₁.set hs₂) p hp
      refine wpAny_mono (wpAny_passesOwn hE (step I _ i t m' news' h₂ _ nI hlt (up _ _ _ _ _ hJ (Nat.le_trans htk (Nat.le_succ _))) hnw' F₂ NI)) (fun f s₃ h₃ => ?_) fun _ _ e => e
      cases f with
      | ret v => exact h₃
      | brk => exact h₃
      | cont =>
        obtain ⟨h₃', tk₃, m₂, news₂, rfl, F₃, N₃, ha₃, hJ₃⟩ := h₃
        exact ⟨n + 1 - (i + 1), by omega, h₃', tk₃, m₂, news₂, i + 1, rfl, (N₃ _ (.head _)).1, F₃, N₃.right, ha₃, hJ₃, hlt, rfl⟩
      | next =>
        obtain ⟨h₃', tk₃, m₂, news₂, rfl, F₃, N₃, ha₃, hJ₃⟩ := h₃
        exact ⟨n + 1 - (i + 1), by omega, h₃', tk₃, m₂, news₂, i + 1, rfl, (N₃ _ (.head _)).1, F₃, N₃.right, ha₃, hJ₃, hlt, rfl⟩
    · have hin : i = n := by omega
      subst hin
      refine wpAny_with_toks (n := tk) (Nat.le_refl _) (W.done _ _ _ hst' fun h₁ tk₁ hk₁ htk => wpAny_execs_nil ?_)
      obtain ⟨F₁, N₁⟩ := next h₁ hk₁
      exact hQ h₁ tk₁ m' news' F₁ N₁ (up _ _ _ _ _ hJ htk)
  · show IsRangeIter _ _ _ _ _
    rw [hn, ← hI]; simpa using Heap.get?_push_size _ rfl
end
end Mine

open PySem PySem.W PySem.Calls PyProof.Rows
namespace Mine
theorem insort_use {w : World} {mean : ExcName → Option Value} {mg mb : Str → Option Value}
   {dp un : Nat} {gd : Option (List Code)} {cn : Str} {cs : Scope} {a : Addr} {ccd : Value} {cl : List (Str × Addr)} {outer : List Env} {A₀ : Around} {base h₀ : Heap} {L : Addr} {m : Str → Option Value} {s : Shared} {Q E : Value → Shared → Prop} {news : List (Addr × Obj)}
   {l : Addr} {vs : List Value} {fs : List UInt64} {n : Nat} {x : UInt64} {t : Tok} {g : Obj → List (Addr × Obj)}
   (B : Below A₀ base outer h₀) (F : Fr h₀ L s.heap m) (X : (hd.heap_39 w.params).In h₀) (N : News h₀ L s.heap news)
   (T : Top hd.view_39 (looseW hd.view_39 ["insort_left", "bisect_left"]) mean mg mb h₀) (hk : cs.kind = .function) (hd : dp + 6 < recursionLimit) (hu : un + 8 * 6 < cLine)
   (hf : PySem.Flt.FloatsAre vs fs) (hlen : fs.length ≤ 1000) (mono : Mono fs x) (U : UpdF l (listOf vs.toArray n) news g)
   (h : ∀ n' r h' tk', s.toks ≤ tk' → Fr h₀ L h' m → News h₀ L h' (g (listOf (vs.take r ++ .float x t :: vs.drop r).toArray n')) → Cut fs x r → Q .none { s with heap := h', toks := tk' }) :
   wpAny (model PySem.Challenge.rw_sr0028_01.row.prog w) (ktrTop dp un gd cn cs L a ccd cl outer) (call (.ref 23) [.ref l, .float x t]) Q E s := by
  obtain ⟨own, rest, rfl, hg, h1, h2⟩ := U.split
  have hoff : ∀ p ∈ own ++ rest, p.1 ≠ l := fun p hp => by
    rcases List.mem_append.mp hp with hp | hp
    · exact h1 p hp
    · exact h2 p hp
  have N₁ : News h₀ L s.heap ((l, listOf vs.toArray n) :: (own ++ rest)) := fun p hp => N p (by
    simp only [List.mem_cons, List.mem_append] at hp ⊢
    rcases hp with hp | hp | hp
    · exact .inr (.inl hp)
    · exact .inl hp
    · exact .inr (.inr hp))
  refine wpAny_with_toks (Nat.le_refl s.toks) (Cl.use (insort_call (t := t) hf hlen mono hoff) B F X N₁ T hk hd hu fun v news' h' tk' F' N' P' => ?_) |> fun q => wpAny_mono q (fun _ _ e => e) fun _ _ e => e
  obtain ⟨rfl, n', r, rfl, ct⟩ := P'
  intro hle
  refine h n' r h' tk' hle F' ?_ ct
  rw [hg]
  intro p hp
  refine N' p ?_
  simp only [List.mem_cons, List.mem_append] at hp ⊢
  rcases hp with hp | hp | hp
  · exact .inr (.inl hp)
  · exact .inl hp
  · exact .inr (.inr hp)
end Mine

open PySem PySem.W PySem.Calls PyProof.Rows
namespace Mine
/-- the row of eighths that belongs to whole numbers -/
def e8 (d : Int) : UInt64 := eighth d.toNat
def In8 (ks : List Int) : Prop := ∀ d ∈ ks, 0 ≤ d ∧ d < 8
theorem below_e8 {ks : List Int} {d : Int} {i : Nat} (h : In8 ks) (hd : 0 ≤ d ∧ d < 8) (hi : i < ks.length) : below (ks.map e8) (e8 d) i = decide (ks[i] < d) := by
  unfold below
  have e : (ks.map e8).getD i 0 = e8 ks[i] := by simp [List.getD, hi]
  have hk := h _ (List.getElem_mem hi)
  rw [e]
  unfold e8
  rw [f_cmp _ (by omega) _ (by omega)]
  have : (compare (ks[i]).toNat d.toNat = Ordering.lt) ↔ ks[i] < d := by rw [Nat.compare_eq_lt]; omega
  by_cases q : ks[i] < d
  · rw [this.mpr q]; simp [q]
  · have q' : compare (ks[i]).toNat d.toNat ≠ Ordering.lt := fun e => q (this.mp e)
    simp [q, q']
theorem mono_e8 {ks : List Int} {d : Int} (h : In8 ks) (hd : 0 ≤ d ∧ d < 8) (hs : ks.Pairwise (· ≤ ·)) : Mono (ks.map e8) (e8 d) := by
  intro i j hij hj hb
  rw [List.length_map] at hj
  rw [below_e8 h hd hj] at hb
  rw [below_e8 h hd (Nat.lt_of_le_of_lt hij hj)]
  have := of_decide_eq_true hb
  refine decide_eq_true ?_
  rcases Nat.lt_or_eq_of_le hij with q | q
  · have := List.pairwise_iff_getElem.mp hs i j (by omega) hj q
    omega
  · subst q; exact this
theorem cut_e8 {ks : List Int} {d : Int} {r : Nat} (h : In8 ks) (hd : 0 ≤ d ∧ d < 8) (hc : Cut (ks.map e8) (e8 d) r) :
    r ≤ ks.length ∧ (∀ x ∈ ks.take r, x < d) ∧ (∀ x ∈ ks.drop r, d ≤ x) := by
  have hr : r ≤ ks.length := by have := hc.le; rwa [List.length_map] at this
  refine ⟨hr, fun x hx => ?_, fun x hx => ?_⟩
  · obtain ⟨i, hi, rfl⟩ := List.getElem_of_mem hx
    have hi' : i < r := by rw [List.length_take] at hi; omega
    have := hc.lo i hi'
    rw [below_e8 h hd (by omega)] at this
    simpa using of_decide_eq_true this
  · obtain ⟨i, hi, rfl⟩ := List.getElem_of_mem hx
    rw [List.length_drop] at hi
    have := hc.hi (r + i) (by omega) (by rw [List.length_map]; omega)
    rw [below_e8 h hd (by omega)] at this
    have := of_decide_eq_false this
    simp only [List.getElem_drop]
    omega
theorem ins_sorted {ks : List Int} {d : Int} {r : Nat} (hs : ks.Pairwise (· ≤ ·)) (h1 : ∀ x ∈ ks.take r, x < d) (h2 : ∀ x ∈ ks.drop r, d ≤ x) :
    (ks.take r ++ d :: ks.drop r).Pairwise (· ≤ ·) := by
  have hs' : (ks.take r ++ ks.drop r).Pairwise (· ≤ ·) := by rw [List.take_append_drop]; exact hs
  rw [List.pairwise_append] at hs' ⊢
  refine ⟨hs'.1, List.pairwise_cons.mpr ⟨h2, hs'.2.1⟩, fun a ha b hb => ?_⟩
  rcases List.mem_cons.mp hb with rfl | hb
  · exact Int.le_of_lt (h1 a ha)
  · exact hs'.2.2 a ha b hb
theorem ins_perm {ks D : List Int} {d : Int} {r : Nat} (hp : ks.Perm D) : (ks.take r ++ d :: ks.drop r).Perm (D ++ [d]) := by
  have a : (ks.take r ++ d :: ks.drop r).Perm (d :: (ks.take r ++ ks.drop r)) := List.perm_middle
  rw [List.take_append_drop] at a
  exact (a.trans (hp.cons d)).trans (List.perm_append_singleton d D).symm
theorem e8_add : ∀ d : Int, 0 ≤ d → d < 4 → Float64.add (e8 d) 4602678819172646912 = e8 (d + 4) := fun d h0 h1 => by
  unfold e8
  rw [f_add _ (by omega)]
  congr 1
  omega
theorem half_e8 : (4602678819172646912 : UInt64) = e8 4 := f_half
end Mine

open PySem PySem.W PySem.Calls PyProof.Rows
namespace Mine
open PySem.Flt (FloatsAre)
local macro_rules | `(tactic| walk_at "exec While Compare cons nil") => `(tactic| (k_here; refine Stop.of ?_))
local macro_rules | `(tactic| walk_at "KswEnd") => `(tactic| (k_here; refine Stop.of ?_))
local macro_rules | `(tactic| walk_at "subscriptTail") => `(tactic| (k_here; (with_reducible show wpAny _ _ (subscriptTail _ _ (Value.ref _) (Value.int _ _)) _ _ _); k_dflt (refine' float_item ?N ?m ?f ?i0 ?i1 ?i2 ?_; (case N => k_asm); (case f => assumption); (case m => assumption); (case i0 => assumption); (case i1 => assumption); (case i2 => assumption)); intro _))
local macro_rules | `(tactic| walk_at "call builtin:len") => `(tactic| (k_here; (with_reducible show wpAny _ _ (call (Value.builtin "len") [Value.ref _]) _ _ _); k_dflt (refine' kst_len ?k1 ?k2 ?k3 ?k4 ?_; (case k1 => k_asm); (case k2 => assumption); (case k3 => assumption); (case k4 => omega))))
set_option maxRecDepth 100000 in
set_option maxHeartbeats 8000000 in
theorem bisect_call2 {w : World} {news : List (Addr × Obj)} {l : Addr} {vs : List Value} {fs : List UInt64} {n : Nat} {x : UInt64} {t : Tok}
   (hm : (l, listOf vs.toArray n) ∈ news) (hf : FloatsAre vs fs) (hlen : fs.length ≤ 1000) (mono : Mono fs x) :
   Cl w 3 32 [.ref l, .float x t] news (fun v news' => ∃ (r : Nat) (t : Tok), v = .int (r : Int) t ∧ news' = news ∧ Cut fs x r) := by
  unfold Cl
  w_top off
  k_fill
  intro mean mg mb dp un gd cn cs a ccd cl outer A₀ base h₀ L m s Q E B F X N T hk hd hu hret
  have hvl : vs.length = fs.length := hf.length
  have hvl2 : vs.length ≤ 1000 := by omega

  refine wpAny_call ?_
  k_dflt ((refine' code_def ?k1_j6 ?k2_j6 ?k3_j6 ?k4_j6 ?k5_j6 ?kA_j6 ?kF_j6 ?kK_j6 ?k6_j6 ?k7_j6 ?k8_j6 ?k9_j6 ?kB_j6 ?_ ?c2_j6 ?c3_j6 ?c4_j6 ?c5_j6; (case kA_j6 => exact rfl); (case kF_j6 => exact rfl); (case kK_j6 => assumption); (case k1_j6 => k_asm); (case k2_j6 => k_asm); (case k3_j6 => k_asm); (case k4_j6 => k_asm); (case k5_j6 => k_asm); (case k6_j6 => k_is); (case k7_j6 => k_is); (case k8_j6 => ktr_room); (case k9_j6 => (refine' kp_binds ?kx_j6 ?ke_j6; (case kx_j6 => k_in); (case ke_j6 => exact fun _ => rfl))); (case c5_j6 => decide); (case kB_j6 => exact locs rfl); (case c2_j6 => exact rfl); (case c3_j6 => exact rfl); (case c4_j6 => exact rfl); k_whole; intro g' L' h' FG' F' N' B' X' T'; (try dsimp only); (try k_fold)))
  k_steps
  unfold Stop
  rename Fr _ _ _ _ => F1
  rename News _ _ _ _ => N1
  refine' ksw_while (σ := Int × Int × Tok × Tok) (fun _ => news) (fun c => [("lo", .int c.1 c.2.2.1), ("hi", .int c.2.1 c.2.2.2)]) (fun _ => True) ["mid"]
    (fun c => 0 ≤ c.1 ∧ c.1 ≤ c.2.1 ∧ c.2.1 ≤ (fs.length : Int) ∧ (∀ i : Nat, (i : Int) < c.1 → below fs x i = true) ∧ (∀ i : Nat, c.2.1 ≤ (i : Int) → i < fs.length → below fs x i = false)) (fun c => (c.2.1 - c.1).toNat) (0, (fs.length : Int), _, _) F1 N1 trivial ?hk ?hp ?turn
  case hk => kst_all
  case hp => exact ⟨Int.le_refl _, by dsimp only; omega, by dsimp only; omega, fun i h => by dsimp only at h; omega, fun i h h' => by dsimp only at h; omega⟩
  case turn =>
    rintro ⟨lo, hi, tl, th⟩ uu h tk - ⟨p0, p1, p2, p3, p4⟩ F2 N2
    dsimp only [kstB] at p0 p1 p2 p3 p4 F2
    clear F1 N1
    by_cases hlh : lo < hi
    · obtain ⟨m0, m1⟩ := fdiv_mid p0 hlh
      have i0 : 0 ≤ (lo + hi).fdiv 2 := by omega
      have i1 : (lo + hi).fdiv 2 < (fs.length : Int) := by omega
      k_steps
      · rename (Float64.cmp _ _ == _) = true => hb
        have hb' : below fs x ((lo + hi).fdiv 2).toNat = true := hb
        unfold Stop
        rename News _ _ _ _ => nE'
        refine' ksw_end ((lo + hi).fdiv 2 + 1, hi, _, th) (by assumption) nE' (by kst_in) trivial (by kst_all) ?_ ⟨by dsimp only; omega, by dsimp only; omega, p2, fun i hi' => mono i _ (by dsimp only at hi'; omega) (by omega) hb', p4⟩ (by dsimp only; omega)
        intro z h2 h3
        have hz1 : z ≠ "lo" := h2 _ (.head _)
        have hz2 : z ≠ "hi" := h2 _ (.tail _ (.head _))
        have hz3 : z ≠ "mid" := by rintro rfl; exact absurd h3 (by decide)
        simp [kstB, hz1, hz2, hz3]
      · rename (Float64.cmp _ _ == _) = false => hb
        have hb' : below fs x ((lo + hi).fdiv 2).toNat = false := hb
        unfold Stop
        rename News _ _ _ _ => nE'
        refine' ksw_end (lo, (lo + hi).fdiv 2, tl, _) (by assumption) nE' (by kst_in) trivial (by kst_all) ?_ ⟨p0, m0, by dsimp only; omega, p3, fun i hi' hi2 => ?_⟩ (by dsimp only; omega)
        · intro z h2 h3
          have hz1 : z ≠ "lo" := h2 _ (.head _)
          have hz2 : z ≠ "hi" := h2 _ (.tail _ (.head _))
          have hz3 : z ≠ "mid" := by rintro rfl; exact absurd h3 (by decide)
          simp [kstB, hz1, hz2, hz3]
        · cases hq : below fs x i with
          | false => rfl
          | true => rw [mono _ i (by dsimp only at hi'; omega) hi2 hq] at hb'; cases hb'
    · k_steps
      all_goals exact hret _ _ _ _ (by assumption) (by assumption) ⟨lo.toNat, tl, by rw [Int.toNat_of_nonneg p0], rfl, by omega, fun i h => p3 i (by omega), fun i h => p4 i (by omega)⟩
theorem bisect_use {w : World} {mean : ExcName → Option Value} {mg mb : Str → Option Value}
   {dp un : Nat} {gd : Option (List Code)} {cn : Str} {cs : Scope} {a : Addr} {ccd : Value} {cl : List (Str × Addr)} {outer : List Env} {A₀ : Around} {base h₀ : Heap} {L : Addr} {m : Str → Option Value} {s : Shared} {Q E : Value → Shared → Prop} {news : List (Addr × Obj)}
   {l : Addr} {vs : List Value} {fs : List UInt64} {n : Nat} {x : UInt64} {t : Tok}
   (B : Below A₀ base outer h₀) (F : Fr h₀ L s.heap m) (X : (hd.heap_39 w.params).In h₀) (N : News h₀ L s.heap news)
   (T : Top hd.view_39 (looseW hd.view_39 ["insort_left", "bisect_left"]) mean mg mb h₀) (hk : cs.kind = .function) (hd : dp + 3 < recursionLimit) (hu : un + 8 * 3 < cLine)
   (hm : (l, listOf vs.toArray n) ∈ news) (hf : FloatsAre vs fs) (hlen : fs.length ≤ 1000) (mono : Mono fs x)
   (h : ∀ r t' h' tk', s.toks ≤ tk' → Fr h₀ L h' m → News h₀ L h' news → Cut fs x r → Q (.int (r : Int) t') { s with heap := h', toks := tk' }) :
   wpAny (model PySem.Challenge.rw_sr0028_01.row.prog w) (ktrTop dp un gd cn cs L a ccd cl outer) (call (.ref 32) [.ref l, .float x t]) Q E s := by
  refine wpAny_with_toks (Nat.le_refl s.toks) (Cl.use (bisect_call2 (t := t) hm hf hlen mono) B F X N T hk hd hu fun v news' h' tk' F' N' P' => ?_) |> fun q => wpAny_mono q (fun _ _ e => e) fun _ _ e => e
  obtain ⟨r, t', rfl, rfl, ct⟩ := P'
  intro hle
  exact h r t' h' tk' hle F' N' ct
end Mine

open PySem PySem.W PySem.Calls PyProof.Rows
namespace Mine
section
variable {prog : Program} {w : World} {A : Around} {E : Value → Shared → Prop} {env : Env} {s : Shared} {h₀ : Heap} {L : Addr} {m : Str → Option Value} {news : List (Addr × Obj)}
def EltEndV (G : Value → Value → Prop) (v : Value) (s₃ : Shared) (y : Value) (s₄ : Shared) : Prop := G v y ∧ Keeps s₃ s₄
theorem EltEndV.mk {G : Value → Value → Prop} {v : Value} {s₃ : Shared} {y : Value} {h' : Heap} {tk : Nat} (g : G v y) (i : InElt s₃.heap h') : EltEndV G v s₃ y { s₃ with heap := h', toks := tk } := ⟨g, h', tk, rfl, i⟩
/-- [elt for x in l], l a list of the ledger, elt reading only -/
theorem comp_list {Q : Value → Shared → Prop} {l : Addr} {vs : List Value} {n : Nat} {elt : Expr} {scope : Scope} {cl : List (Str × Addr)} {x : Str} (G : Value → Value → Prop)
    (hh : A.handled = none) (hz : vs.length ≤ sizeLine) (F : Fr h₀ L s.heap m) (N : News h₀ L s.heap news) (hm : (l, listOf vs.toArray n) ∈ news)
    (helt : ∀ C v s₃ m₃ E', v ∈ vs → s₃.heap.Ns C m₃ → m₃ x = some v → Fr h₀ L s₃.heap m → News h₀ L s₃.heap news → InElt s₃.heap s₃.heap → s.toks ≤ s₃.toks →
      wpAny (model prog w) A (eval elt (compEnvC scope cl C env)) (fun y s₄ => EltEndV G v s₃ y s₄) E' s₃)
    (done : ∀ D h' tk (ys : List Value) n', (∀ p ∈ news, @Ne Nat p.1 D) → Fr h₀ L h' m → News h₀ L h' ((D, listOf ys.toArray n') :: news) → Paired G vs ys → Q (.ref D) { s with heap := h', toks := tk }) :
    wpAny (model prog w) A (pyIter (.ref l)) (fun it s₂ => ∃ I fp wr n P St, it = .ref I ∧ Walks prog w A I fp wr n P St ∧ n ≤ sizeLine ∧ St 0 s₂.heap ∧ (∀ b ∈ fp, b < s₂.heap.objs.size) ∧
      QuietOnC prog w A env scope cl x [] elt wr P (fun _ => true) G s₂ ∧
      (∀ D h' tk ys (vs : List Value), s₂.heap.get? D = none → h'.IsList D ys → h'.PlainList D ys → vs.length = n → (∀ j v, vs[j]? = some v → P j v) → Paired G (vs.filter (fun _ => true)) ys.toList →
        (∀ b o, b ∉ wr → s₂.heap.get? b = some o → h'.get? b = some o) → Q (.ref D) { s₂ with heap := h', toks := tk })) E s := by
  have hax := N _ hm
  have hl : s.heap.IsList l vs.toArray := ⟨_, hax.1, rfl, n, rfl⟩
  have hne : l ≠ s.heap.objs.size := Nat.ne_of_lt (Heap.lt_size hax.1)
  refine wpAny_pyIter_list hl ?_
  have W := Walks.list (prog := prog) (w := w) hh s.heap.objs.size l hne vs.toArray
  generalize hH : s.heap.push _ = H
  have pushed : ∀ b o, s.heap.get? b = some o → H.get? b = some o := fun b o e => hH ▸ Heap.get?_push_of_some _ e
  have grow : ∀ h' : Heap, (∀ b o, b ∉ [s.heap.objs.size] → H.get? b = some o → h'.get? b = some o) → InElt s.heap h' := fun h' hk b o e =>
    hk b o (fun hb => by rw [List.mem_singleton.mp hb] at e; exact absurd (Heap.lt_size e) (Nat.lt_irrefl _)) (pushed _ _ e)
  refine ⟨s.heap.objs.size, _, _, _, _, _, rfl, W, by simpa using hz, ?_, ?_, ?_, ?_⟩
  · exact ⟨⟨_, hH ▸ Heap.get?_push_size _ rfl, rfl, rfl⟩, hl.at fun o e => pushed _ _ e⟩
  · intro b hb
    show b < H.objs.size
    rw [← hH, Heap.size_push]
    rcases List.mem_cons.mp hb with rfl | hb
    · exact Nat.lt_succ_self _
    · rw [List.mem_singleton.mp hb]; exact Nat.lt_succ_of_lt (Heap.lt_size hax.1)
  · refine ⟨fun C i v s₃ m₃ E' _ _ _ _ _ _ => ?_, fun C i v s₃ m₃ E' hC hP _ hns hm hk htk => ?_⟩
    · exact wpAny_pure ⟨rfl, _, _, rfl, fun _ _ e => e⟩
    · have g := grow _ hk
      have hv : vs[i]? = some v := by simpa using hP
      exact helt C v s₃ m₃ E' (List.mem_of_getElem? hv) hns hm (F.keeps g) (N.grown g) (InElt.start _) htk
  · intro D h' tk ys us hD hl' hpl hlen hP hF hk
    have g := grow _ hk
    obtain ⟨n', ho⟩ := hpl
    rw [List.filter_eq_self.mpr (fun _ _ => rfl)] at hF
    have hDn : ∀ o, s.heap.get? D ≠ some o := fun o e => by
      have := pushed _ _ e
      rw [hD] at this; cases this
    have hus : us = vs := by
      have hlen' : us.length = vs.length := by rw [hlen]; simp
      refine List.ext_getElem? fun j => ?_
      by_cases hj : j < us.length
      · have hu : us[j]? = some us[j] := List.getElem?_eq_getElem hj
        have := hP j _ hu
        rw [hu]
        simpa using this.symm
      · rw [List.getElem?_eq_none (by omega), List.getElem?_eq_none (by omega)]
    subst hus
    refine done D h' tk ys.toList n' (fun p hp e => hDn _ (e ▸ (N p hp).1)) (F.keeps g) ?_ hF
    intro p hp
    rcases List.mem_cons.mp hp with rfl | hp
    · refine ⟨by simpa [PySem.W.listOf] using ho, ?_, ?_⟩
      · rintro rfl
        obtain ⟨o, _, _, ho, _⟩ := F.ns
        exact hDn _ ho
      · cases e : h₀.get? D with
        | none => rfl
        | some o => exact absurd (F.keep _ _ e) (hDn _)
    · exact N.grown g p hp
end
end Mine

open PySem PySem.W PySem.Calls PyProof.Rows
namespace Mine
theorem f_mul8 : ∀ a < 8, (Float64.cmpInt (Float64.mul (eighth a) (Float64.ofInt 8)) (a : Int) == some Ordering.eq) = true := by decide +kernel
theorem e8_mul {d : Int} (h : 0 ≤ d ∧ d < 8) : (Float64.cmpInt (Float64.mul (e8 d) (Float64.ofInt 8)) d == some Ordering.eq) = true := by
  have := f_mul8 d.toNat (by omega)
  rwa [show ((d.toNat : Nat) : Int) = d by omega] at this
theorem e8_eq {a b : Int} (ha : 0 ≤ a ∧ a < 8) (hb : 0 ≤ b ∧ b < 8) : (Float64.cmp (e8 a) (e8 b) == some Ordering.eq) = decide (a = b) := by
  unfold e8
  rw [f_cmp _ (by omega) _ (by omega)]
  by_cases q : a = b
  · subst q; simp
  · have q' : compare a.toNat b.toNat ≠ Ordering.eq := fun e => q (by have := Nat.compare_eq_eq.mp e; omega)
    simp [q, q']
theorem sub8 : ∀ u v : Fin 8, (u.1 + 8 - v.1) % 8 = ((((u.1 : Nat) : Int) - ((v.1 : Nat) : Int)) % 8).toNat := by decide
theorem mod8 (a : Int) : (a % 8).toNat < 8 := by omega
/-- the fractional part of a difference of eighths -/
theorem e8_diff {a b : Int} (_ha : 0 ≤ a) (_hb : 0 ≤ b) : (Float64.divmod (Float64.sub (eighth (a % 8).toNat) (eighth (b % 8).toNat)) 4607182418800017408).2 = e8 ((a - b).fmod 8) := by
  rw [f_diff _ (mod8 a) _ (mod8 b), Int.fmod_eq_emod_of_nonneg _ (by decide)]
  unfold e8
  congr 1
  have h := sub8 ⟨(a % 8).toNat, mod8 a⟩ ⟨(b % 8).toNat, mod8 b⟩
  rw [Int.toNat_of_nonneg (Int.emod_nonneg _ (by decide)), Int.toNat_of_nonneg (Int.emod_nonneg _ (by decide)), ← Int.sub_emod] at h
  exact h
theorem diff8 (a b : Int) : 0 ≤ (a - b).fmod 8 ∧ (a - b).fmod 8 < 8 := by
  rw [Int.fmod_eq_emod_of_nonneg _ (by decide)]; omega
end Mine

open PySem PySem.W PySem.Calls PyProof.Rows
namespace Mine
section
variable {prog : Program} {w : World} {A : Around} {E : Value → Shared → Prop} {env : Env} {s : Shared} {h₀ : Heap} {x : Str} {body : List Stmt} {Q : Flow → Shared → Prop} {σ : Type}
def EndT (h₀ : Heap) (L : Addr) (x : Str) (stored : List Str) (m₀ : Str → Option Value) (Led : σ → List (Addr × Obj)) (ps : σ → List (Str × Value)) (P : Nat → σ → Nat → Prop) (I : Addr) (it : Obj) (i : Nat) (s₁ : Shared) (Q : Flow → Shared → Prop) (f : Flow) (s₂ : Shared) : Prop :=
  match f with
  | .ret v => Q (.ret v) s₂
  | .brk => Q .next s₂
  | _ => ∃ (c : σ) (h' : Heap) (tk : Nat) (m' : Str → Option Value), s₂ = { s₁ with heap := h', toks := tk } ∧ Fr h₀ L h' m' ∧ News h₀ L h' ((I, it) :: Led c) ∧ (∀ p ∈ ps c, m' p.1 = some p.2) ∧
      (∀ z, z ≠ x → (∀ p ∈ ps c, z ≠ p.1) → stored.contains z = false → m' z = m₀ z) ∧ P (i + 1) c tk

theorem range_kst_T {ra : Addr} {a b : Int} {n : Nat} {t u v : Tok} {m₀ : Str → Option Value} (Led : σ → List (Addr × Obj)) (ps : σ → List (Str × Value)) (stored : List Str) (P : Nat → σ → Nat → Prop) (c₀ : σ)
    (hr : IsRange s.heap ra a b 1 t u v) (hsmall : Builtin.Range.small a b 1 = true) (hn : Builtin.Range.rangeSize a b 1 = (n : Int)) (hh : A.handled = none) (F : Fr h₀ env.locals s.heap m₀) (N : News h₀ env.locals s.heap (Led c₀))
    (hk : ∀ p ∈ ps c₀, m₀ p.1 = some p.2) (hp : P 0 c₀ s.toks) (up : ∀ i c tk tk', P i c tk → tk ≤ tk' → P i c tk') (adr : ∀ c, (Led c).map (·.1) = (Led c₀).map (·.1))
    (turn : ∀ (c : σ) (i : Nat) t (u : Str → Option Value) h tk I it, (∀ p ∈ Led c₀, p.1 < I) → i < n → P i c tk →
      Fr h₀ env.locals h (fun y => if y = x then some (.int (a + (i : Int)) t) else kstB (fun z => if stored.contains z then u z else m₀ z) (ps c) y) → News h₀ env.locals h ((I, it) :: Led c) →
      wpAny (model prog w) A (execs body env) (EndT h₀ env.locals x stored m₀ Led ps P I it i { s with heap := h, toks := tk } Q) E { s with heap := h, toks := tk })
    (done : ∀ (c : σ) (u : Str → Option Value) h tk, P n c tk → Fr h₀ env.locals h (fun y => if y = x then u y else kstB (fun z => if stored.contains z then u z else m₀ z) (ps c) y) → News h₀ env.locals h (Led c) → Q .next { s with heap := h, toks := tk }) :
    RangeT prog w A h₀ env x body Q E (.ref ra) s := by
  refine ⟨ra, a, b, n, t, u, v, m₀, Led c₀, fun i m' nx tk => ∃ c : σ, nx = Led c ∧ (∀ p ∈ ps c, m' p.1 = some p.2) ∧ (∀ z, z ≠ x → (∀ p ∈ ps c, z ≠ p.1) → stored.contains z = false → m' z = m₀ z) ∧ P i c tk,
    rfl, hr, hsmall, hn, hh, F, N, ⟨c₀, rfl, hk, fun _ _ _ _ => rfl, hp⟩, ?_, ?_, ?_⟩
  · rintro i m' nx tk tk' ⟨c, e, a1, a2, a3⟩ hle
    exact ⟨c, e, a1, a2, up _ _ _ _ a3 hle⟩
  · rintro I it i t' m₁ nx h₁ tk₁ hI hi ⟨c, rfl, h1, h2, h3⟩ hne F₁ N₁
    refine wpAny_mono (turn c i t' m₁ h₁ tk₁ I it hI hi h3 (kst_fr h1 h2 F₁) N₁) (fun f s₂ q => ?_) fun _ _ e => e
    have fin : ∀ c' : σ, ∀ p ∈ Led c', p.1 ≠ I := fun c' p hp => by
      have : p.1 ∈ (Led c').map (·.1) := List.mem_map_of_mem hp
      rw [adr] at this
      obtain ⟨q, hq, e⟩ := List.mem_map.mp this
      rw [← e]
      exact Nat.ne_of_lt (hI q hq)
    cases f with
    | ret v => exact q
    | brk => exact q
    | next =>
      obtain ⟨c', h', tk, m', rfl, F', N', b1, b2, b3⟩ := q
      exact ⟨h', tk, m', Led c', rfl, F', N', fin c', c', rfl, b1, b2, b3⟩
    | cont =>
      obtain ⟨c', h', tk, m', rfl, F', N', b1, b2, b3⟩ := q
      exact ⟨h', tk, m', Led c', rfl, F', N', fin c', c', rfl, b1, b2, b3⟩
  · rintro h' tk m' nx F' N' ⟨c, rfl, h1, h2, h3⟩
    exact done c m' h' tk h3 (kst_frOut h1 h2 F') N'
end
end Mine

open PySem PySem.W PySem.Calls PyProof.Rows
namespace Mine
open PySem.Flt (FloatsAre)
def BalP (ns : List Int) (i : Nat) (b : Bool) : Prop := b = true ↔ ∀ s, 1 ≤ s → s ≤ i → Bal (DD ns s)
structure RowSt where
  vs : List Value
  nv : Nat
  us : List Value
  nu : Nat
  ks : List Int
def TokIn (vs : List Value) (tk : Nat) : Prop := ∀ v ∈ vs, ∃ b t, v = .float b t ∧ (t == 0) = false ∧ t < tk
structure RowOk (D : List Int) (c : RowSt) (tk : Nat) : Prop where
  fl : FloatsAre c.vs (c.ks.map e8)
  so : c.ks.Pairwise (· ≤ ·)
  in8 : In8 c.ks
  pm : c.ks.Perm D
  us : IntsAre c.us D
  tok : TokIn c.vs tk
  len : D.length ≤ 100
theorem RowOk.up {D : List Int} {c : RowSt} {tk tk' : Nat} (h : RowOk D c tk) (l : tk ≤ tk') : RowOk D c tk' :=
  ⟨h.fl, h.so, h.in8, h.pm, h.us, fun v hv => let ⟨b, t, e, z, q⟩ := h.tok v hv; ⟨b, t, e, z, Nat.lt_of_lt_of_le q l⟩, h.len⟩
/-- the differences met so far -/
def dlw (ns : List Int) (s j k : Nat) : List Int := if j = 0 then (dl ns false s).take k else if j = 1 then dl ns false s ++ (dl ns true s).take k else DD ns s
theorem dl_length (ns : List Int) (b : Bool) (s : Nat) : (dl ns b s).length = 8 - s := by simp [dl]
theorem dlw_next0 (ns : List Int) (s : Nat) : dlw ns s 0 (8 - s) = dlw ns s 1 0 := by simp [dlw, ← dl_length ns false s]
theorem dlw_next1 (ns : List Int) (s : Nat) : dlw ns s 1 (8 - s) = dlw ns s 2 0 := by simp [dlw, DD, ← dl_length ns true s]
theorem dlw_snoc (ns : List Int) (s j k : Nat) (b : Bool) (hj : j = if b then 1 else 0) (hk : k < 8 - s) : dlw ns s j (k + 1) = dlw ns s j k ++ [(PR ns b (k + s) - PR ns b k).fmod 8] := by
  have h : ∀ b, (dl ns b s).take (k + 1) = (dl ns b s).take k ++ [(PR ns b (k + s) - PR ns b k).fmod 8] := fun b => by
    have hl : k < (dl ns b s).length := by rw [dl_length]; exact hk
    rw [List.take_add_one, List.getElem?_eq_getElem hl]
    simp [dl]
  cases b with
  | false => subst hj; simp [dlw, h]
  | true => subst hj; simp [dlw, h]

theorem EndT.mk {σ : Type} {h₀ : Heap} {L : Addr} {x : Str} {stored : List Str} {m₀ : Str → Option Value} {Led : σ → List (Addr × Obj)} {ps : σ → List (Str × Value)} {P : Nat → σ → Nat → Prop} {I : Addr} {it : Obj} {i : Nat} {s₁ : Shared} {Q : Flow → Shared → Prop}
    {h' : Heap} {tk : Nat} {m' : Str → Option Value} (c : σ) (F : Fr h₀ L h' m') (N : News h₀ L h' ((I, it) :: Led c)) (hp : ∀ p ∈ ps c, m' p.1 = some p.2)
    (hm : ∀ z, z ≠ x → (∀ p ∈ ps c, z ≠ p.1) → stored.contains z = false → m' z = m₀ z) (hP : P (i + 1) c tk) : EndT h₀ L x stored m₀ Led ps P I it i s₁ Q .next { s₁ with heap := h', toks := tk } :=
  ⟨c, h', tk, m', rfl, F, N, hp, hm, hP⟩
theorem range8 : ∀ i : Fin 7, Builtin.Range.small 0 (8 - (1 + ((i.1 : Nat) : Int))) 1 = true ∧ Builtin.Range.rangeSize 0 (8 - (1 + ((i.1 : Nat) : Int))) 1 = ((8 - (i.1 + 1) : Nat) : Int) := by decide
theorem BalP.zero (ns : List Int) : BalP ns 0 true := ⟨fun _ s h1 h2 => absurd (Nat.le_trans h1 h2) (by decide), fun _ => rfl⟩
theorem BalP.keep {ns : List Int} {i : Nat} {b : Bool} (h : BalP ns i b) (g : Bal (DD ns (i + 1))) : BalP ns (i + 1) b :=
  ⟨fun e s h1 h2 => if q : s = i + 1 then q ▸ g else h.mp e s h1 (by omega), fun e => h.mpr fun s h1 h2 => e s h1 (by omega)⟩
theorem BalP.drop {ns : List Int} {i : Nat} (g : ¬ Bal (DD ns (i + 1))) : BalP ns (i + 1) false :=
  ⟨fun e => absurd e (by decide), fun e => absurd (e (i + 1) (by omega) (Nat.le_refl _)) g⟩
section
variable {prog : Program} {w : World} {A : Around} {E : Value → Shared → Prop} {env : Env} {s : Shared} {h₀ : Heap} {body : List Stmt} {Q : Flow → Shared → Prop} {ra : Addr} {t u v : Tok} {m₀ : Str → Option Value} {Lg : List (Addr × Obj)}
theorem law_shift (ns : List Int) (_ok : DrawnOk ns)
    (hr : IsRange s.heap ra 1 8 1 t u v) {L : Addr} (hL : env.locals = L) (hh : A.handled = none) (F : Fr h₀ L s.heap m₀) (N : News h₀ L s.heap Lg) (hb : m₀ "balanced" = some (.bool true))
    (turn : ∀ (i : Nat) (b : Bool) t (u : Str → Option Value) h tk I it, (∀ p ∈ Lg, p.1 < I) → i < 7 → BalP ns i b →
      Fr h₀ L h (fun y => if y = "shift" then some (.int (1 + (i : Int)) t) else kstB (fun z => if (["row", "due", "which", "k", "half"] : List Str).contains z then u z else m₀ z) [("balanced", .bool b)] y) → News h₀ L h ((I, it) :: Lg) →
      wpAny (model prog w) A (execs body env) (EndT (σ := Bool) h₀ L "shift" (["row", "due", "which", "k", "half"] : List Str) m₀ (fun _ => Lg) (fun b => [("balanced", .bool b)]) (fun i b _ => BalP ns i b) I it i { s with heap := h, toks := tk } Q) E { s with heap := h, toks := tk })
    (done : ∀ (b : Bool) (u : Str → Option Value) h tk, BalP ns 7 b →
      Fr h₀ L h (fun y => if y = "shift" then u y else kstB (fun z => if (["row", "due", "which", "k", "half"] : List Str).contains z then u z else m₀ z) [("balanced", .bool b)] y) → News h₀ L h Lg → Q .next { s with heap := h, toks := tk }) :
    RangeT prog w A h₀ env "shift" body Q E (.ref ra) s := by
  subst hL
  exact range_kst_T (σ := Bool) (n := 7) (fun _ => Lg) (fun b => [("balanced", .bool b)]) (["row", "due", "which", "k", "half"] : List Str) (fun i b _ => BalP ns i b) true hr (by decide) (by decide) hh F N
    (fun p hp => by rw [List.mem_singleton.mp hp]; exact hb) (BalP.zero ns) (fun _ _ _ _ h _ => h) (fun _ => rfl)
    (fun b i t u h tk I it hI hi hp F' N' => turn i b t u h tk I it hI hi hp F' N') (fun b u h tk hp F' N' => done b u h tk hp F' N')
theorem law_which {Ar Ad : Addr} {n1 n2 : Nat} (ns : List Int) (_ok : DrawnOk ns) (i : Nat)
    (hr : IsRange s.heap ra 0 2 1 t u v) {L : Addr} (hL : env.locals = L) (hh : A.handled = none) (F : Fr h₀ L s.heap m₀) (N : News h₀ L s.heap ((Ad, listOf #[] n2) :: (Ar, listOf #[] n1) :: Lg))
    (turn : ∀ (c : RowSt) (j : Nat) t (u : Str → Option Value) h tk I it, (∀ p ∈ (Ad, listOf #[] n2) :: (Ar, listOf #[] n1) :: Lg, p.1 < I) → j < 2 → RowOk (dlw ns (i + 1) j 0) c tk →
      Fr h₀ L h (fun y => if y = "which" then some (.int (0 + (j : Int)) t) else kstB (fun z => if (["k"] : List Str).contains z then u z else m₀ z) [] y) → News h₀ L h ((I, it) :: (Ad, listOf c.us.toArray c.nu) :: (Ar, listOf c.vs.toArray c.nv) :: Lg) →
      wpAny (model prog w) A (execs body env) (EndT (σ := RowSt) h₀ L "which" (["k"] : List Str) m₀ (fun c => (Ad, listOf c.us.toArray c.nu) :: (Ar, listOf c.vs.toArray c.nv) :: Lg) (fun _ => []) (fun j c tk => RowOk (dlw ns (i + 1) j 0) c tk) I it j { s with heap := h, toks := tk } Q) E { s with heap := h, toks := tk })
    (done : ∀ (c : RowSt) (u : Str → Option Value) h tk, RowOk (DD ns (i + 1)) c tk →
      Fr h₀ L h (fun y => if y = "which" then u y else kstB (fun z => if (["k"] : List Str).contains z then u z else m₀ z) [] y) → News h₀ L h ((Ad, listOf c.us.toArray c.nu) :: (Ar, listOf c.vs.toArray c.nv) :: Lg) → Q .next { s with heap := h, toks := tk }) :
    RangeT prog w A h₀ env "which" body Q E (.ref ra) s := by
  subst hL
  exact range_kst_T (σ := RowSt) (n := 2) (fun c => (Ad, listOf c.us.toArray c.nu) :: (Ar, listOf c.vs.toArray c.nv) :: Lg) (fun _ => []) (["k"] : List Str) (fun j c tk => RowOk (dlw ns (i + 1) j 0) c tk) ⟨[], n1, [], n2, []⟩ hr (by decide) (by decide) hh F N
    (fun p hp => nomatch hp) ⟨.nil, .nil, (fun _ h => nomatch h), (by simp [dlw]), (by simp [dlw]; exact .nil), (fun _ h => nomatch h), (by simp [dlw])⟩ (fun _ _ _ _ h l => h.up l) (fun _ => rfl)
    (fun c j t u h tk I it hI hi hp F' N' => turn c j t u h tk I it hI hi hp F' N') (fun c u h tk hp F' N' => done c u h tk hp F' N')
theorem law_k {Ar Ad : Addr} {X0 : Addr × Obj} (ns : List Int) (i j : Nat) (c₀ : RowSt) (hi : i < 7) (hp : RowOk (dlw ns (i + 1) j 0) c₀ s.toks)
    (hr : IsRange s.heap ra 0 (8 - (1 + (i : Int))) 1 t u v) {L : Addr} (hL : env.locals = L) (hh : A.handled = none) (F : Fr h₀ L s.heap m₀) (N : News h₀ L s.heap (X0 :: (Ad, listOf c₀.us.toArray c₀.nu) :: (Ar, listOf c₀.vs.toArray c₀.nv) :: Lg))
    (turn : ∀ (c : RowSt) (k : Nat) t h tk I it, (∀ p ∈ X0 :: (Ad, listOf c₀.us.toArray c₀.nu) :: (Ar, listOf c₀.vs.toArray c₀.nv) :: Lg, p.1 < I) → k < 8 - (i + 1) → RowOk (dlw ns (i + 1) j k) c tk →
      Fr h₀ L h (fun y => if y = "k" then some (.int (0 + (k : Int)) t) else m₀ y) → News h₀ L h ((I, it) :: X0 :: (Ad, listOf c.us.toArray c.nu) :: (Ar, listOf c.vs.toArray c.nv) :: Lg) →
      wpAny (model prog w) A (execs body env) (EndT (σ := RowSt) h₀ L "k" ([] : List Str) m₀ (fun c => X0 :: (Ad, listOf c.us.toArray c.nu) :: (Ar, listOf c.vs.toArray c.nv) :: Lg) (fun _ => []) (fun k c tk => RowOk (dlw ns (i + 1) j k) c tk) I it k { s with heap := h, toks := tk } Q) E { s with heap := h, toks := tk })
    (done : ∀ (c : RowSt) (u : Str → Option Value) h tk, RowOk (dlw ns (i + 1) j (8 - (i + 1))) c tk →
      Fr h₀ L h (fun y => if y = "k" then u y else m₀ y) → News h₀ L h (X0 :: (Ad, listOf c.us.toArray c.nu) :: (Ar, listOf c.vs.toArray c.nv) :: Lg) → Q .next { s with heap := h, toks := tk }) :
    RangeT prog w A h₀ env "k" body Q E (.ref ra) s := by
  subst hL
  exact range_kst_T (σ := RowSt) (n := 8 - (i + 1)) (fun c => X0 :: (Ad, listOf c.us.toArray c.nu) :: (Ar, listOf c.vs.toArray c.nv) :: Lg) (fun _ => []) ([] : List Str) (fun k c tk => RowOk (dlw ns (i + 1) j k) c tk) c₀ hr
    (range8 ⟨i, hi⟩).1 (range8 ⟨i, hi⟩).2 hh F N
    (fun p hp => nomatch hp) hp (fun _ _ _ _ h l => h.up l) (fun _ => rfl)
    (fun c k t u h tk I it hI hi hp F' N' => turn c k t h tk I it hI hi hp F' N') (fun c u h tk hp F' N' => done c u h tk hp F' N')
end
end Mine

open PySem PySem.W PySem.Calls PyProof.Rows
namespace Mine
open PySem.Flt (FloatsAre)
section
variable {prog : Program} {w : World} {A : Around} {E : Value → Shared → Prop} {s : Shared} {value slice : Expr} {h₀ : Heap} {L l : Addr} {news : List (Addr × Obj)} {vs : List Value} {i : Int} {u : Tok} {n : Nat} {Q : Value → Shared → Prop} {ns : List Int} {b : Bool}
theorem ref_item {arr : Array Value} {v : Addr}
    (N : News h₀ L s.heap news) (hm : (l, listOf arr n) ∈ news) (h0 : 0 ≤ i) (h2 : i < 8) (hv : arr[i.toNat]? = some (.ref v)) (h : Q (.ref v) s)
    (hs : subscripted slice false (.ref l) (.int i u) = operate [.ref l, .int i u] (getItem (.ref l) (.int i u)) := by with_unfolding_all rfl) :
    wpAny (model prog w) A (subscriptTail value slice (.ref l) (.int i u)) Q E s := by
  have hl : s.heap.IsList l arr := ⟨_, (N _ hm).1, rfl, n, rfl⟩
  exact tail_any hl.typeIs slot_list_getitem.lookup (wpAny_getItem_list hl h0 (by omega) hv h) hs
theorem told_item
    (N : News h₀ L s.heap news) (hm : (l, listOf vs.toArray n) ∈ news) (hf : FloatsAre vs ((List.range 8).map fun k => eighth (PR ns b k % 8).toNat)) (h0 : 0 ≤ i) (h1 : i < 8) (h : ∀ t, Q (.float (eighth (PR ns b i.toNat % 8).toNat) t) s)
    (hs : subscripted slice false (.ref l) (.int i u) = operate [.ref l, .int i u] (getItem (.ref l) (.int i u)) := by with_unfolding_all rfl) :
    wpAny (model prog w) A (subscriptTail value slice (.ref l) (.int i u)) Q E s := by
  refine float_item N hm hf h0 (by simpa using h1) (by simp) (fun t => ?_) hs
  have := h t
  have e : ((List.range 8).map fun k => eighth (PR ns b k % 8).toNat).getD i.toNat 0 = eighth (PR ns b i.toNat % 8).toNat := by
    have : i.toNat < 8 := by omega
    simp [List.getD, this]
  rw [e]
  exact h t
theorem plain_item
    (N : News h₀ L s.heap news) (hm : (l, listOf vs.toArray n) ∈ news) (hf : IntsAre vs ((List.range 8).map fun k => PR ns b k)) (h0 : 0 ≤ i) (h1 : i < 8) (h : ∀ t, Q (.int (PR ns b i.toNat) t) s)
    (hs : subscripted slice false (.ref l) (.int i u) = operate [.ref l, .int i u] (getItem (.ref l) (.int i u)) := by with_unfolding_all rfl) :
    wpAny (model prog w) A (subscriptTail value slice (.ref l) (.int i u)) Q E s := by
  have hl : s.heap.IsList l vs.toArray := ⟨_, (N _ hm).1, rfl, n, rfl⟩
  obtain ⟨t, ht⟩ := hf.get i.toNat (PR ns b i.toNat) (by
    have : i.toNat < 8 := by omega
    simp [this])
  exact tail_any hl.typeIs slot_list_getitem.lookup (wpAny_getItem_list hl h0 (by omega) (by simpa using ht) (h t)) hs
end
/-- the row with one more hue -/
structure RowIn (D : List Int) (vs : List Value) (ks : List Int) (tk : Nat) : Prop where
  fl : FloatsAre vs (ks.map e8)
  so : ks.Pairwise (· ≤ ·)
  in8 : In8 ks
  pm : ks.Perm D
  tok : TokIn vs tk
theorem floats_app {a b : List Value} {x y : List UInt64} (h : FloatsAre a x) (g : FloatsAre b y) : FloatsAre (a ++ b) (x ++ y) := by
  induction h with
  | nil => exact g
  | cons a t _ ih => exact .cons a t ih
theorem floats_take {a : List Value} {x : List UInt64} (h : FloatsAre a x) (r : Nat) : FloatsAre (a.take r) (x.take r) := by
  induction h generalizing r with
  | nil => simpa using .nil
  | cons a t _ ih => cases r with
    | zero => exact .nil
    | succ r => exact .cons a t (ih r)
theorem floats_drop {a : List Value} {x : List UInt64} (h : FloatsAre a x) (r : Nat) : FloatsAre (a.drop r) (x.drop r) := by
  induction h generalizing r with
  | nil => simpa using .nil
  | cons a t q ih => cases r with
    | zero => exact .cons a t q
    | succ r => exact ih r
theorem insort_law {w : World} {mean : ExcName → Option Value} {mg mb : Str → Option Value}
   {dp un : Nat} {gd : Option (List Code)} {cn : Str} {cs : Scope} {a : Addr} {ccd : Value} {cl : List (Str × Addr)} {outer : List Env} {A₀ : Around} {base h₀ : Heap} {L : Addr} {m : Str → Option Value} {s : Shared} {Q E : Value → Shared → Prop} {news : List (Addr × Obj)}
   {l : Addr} {c : RowSt} {D : List Int} {tk₀ : Nat} {n : Nat} {x : UInt64} {t : Tok} {g : Obj → List (Addr × Obj)} {d : Int}
   (B : Below A₀ base outer h₀) (F : Fr h₀ L s.heap m) (X : (hd.heap_39 w.params).In h₀) (N : News h₀ L s.heap news)
   (T : Top hd.view_39 (looseW hd.view_39 ["insort_left", "bisect_left"]) mean mg mb h₀) (hk : cs.kind = .function) (hd : dp + 6 < recursionLimit) (hu : un + 8 * 6 < cLine)
   (ok : RowOk D c tk₀) (ht : tk₀ ≤ s.toks) (ht0 : (t == 0) = false) (ht1 : t < s.toks) (hx : x = e8 d) (hd8 : 0 ≤ d ∧ d < 8) (U : UpdF l (listOf c.vs.toArray n) news g)
   (h : ∀ vs' n' ks' h' tk', s.toks ≤ tk' → Fr h₀ L h' m → News h₀ L h' (g (listOf vs'.toArray n')) → RowIn (D ++ [d]) vs' ks' tk' → Q .none { s with heap := h', toks := tk' }) :
   wpAny (model PySem.Challenge.rw_sr0028_01.row.prog w) (ktrTop dp un gd cn cs L a ccd cl outer) (call (.ref 23) [.ref l, .float x t]) Q E s := by
  subst hx
  have hl : c.ks.length ≤ 100 := ok.pm.length_eq ▸ ok.len
  refine insort_use B F X N T hk hd hu ok.fl (by simp; omega) (mono_e8 ok.in8 hd8 ok.so) U (fun n' r h' tk' hle F' N' ct => ?_)
  obtain ⟨hr, c1, c2⟩ := cut_e8 ok.in8 hd8 ct
  refine h _ n' (c.ks.take r ++ d :: c.ks.drop r) h' tk' hle F' N' ⟨?_, ins_sorted ok.so c1 c2, ?_, ins_perm ok.pm, ?_⟩
  · rw [List.map_append, List.map_cons, List.map_take, List.map_drop]
    exact floats_app (floats_take ok.fl r) (.cons _ t (floats_drop ok.fl r))
  · intro y hy
    rcases List.mem_append.mp hy with hy | hy
    · exact ok.in8 y (List.mem_of_mem_take hy)
    · rcases List.mem_cons.mp hy with rfl | hy
      · exact hd8
      · exact ok.in8 y (List.mem_of_mem_drop hy)
  · intro v hv
    have old : v ∈ c.vs → ∃ b t, v = .float b t ∧ (t == 0) = false ∧ t < tk' := fun hv => by
      obtain ⟨b, t, e, z, q⟩ := ok.tok v hv
      exact ⟨b, t, e, z, Nat.lt_of_lt_of_le q (Nat.le_trans ht hle)⟩
    rcases List.mem_append.mp hv with hv | hv
    · exact old (List.mem_of_mem_take hv)
    · rcases List.mem_cons.mp hv with rfl | hv
      · exact ⟨_, t, rfl, ht0, Nat.lt_of_lt_of_le ht1 hle⟩
      · exact old (List.mem_of_mem_drop hv)
section
variable {prog : Program} {w : World} {A : Around} {E : Value → Shared → Prop} {s : Shared} {h₀ : Heap} {L l : Addr} {m : Str → Option Value} {news : List (Addr × Obj)} {vs : List Value} {n : Nat} {x : Value} {g : Obj → List (Addr × Obj)} {Q : Value → Shared → Prop}
theorem append_L (F : Fr h₀ L s.heap m) (N : News h₀ L s.heap news) (U : UpdF l (listOf vs.toArray n) news g) (hsz : vs.length ≤ 1000)
    (h : ∀ h', Fr h₀ L h' m → News h₀ L h' (g (listOf (vs ++ [x]).toArray (n + 1))) → Q .none { s with heap := h' }) : wpAny (model prog w) A (call (.builtin "list.append") [.ref l, x]) Q E s := by
  obtain ⟨own, rest, rfl, hg, a, b⟩ := U.split
  have z := N (l, listOf vs.toArray n) (List.mem_append.mpr (.inr (.head _)))
  refine append_at (hsz := by simp only [List.size_toArray]; exact Nat.le_trans hsz (by decide)) z.1 fun h' hs ho' => h h' (F.change hs z.2.1 z.2.2) ?_
  rw [hg]
  have e : vs.toArray.push x = (vs ++ [x]).toArray := by simp
  rw [← e]
  exact news_set N a b hs ho'
end
theorem dlw_length (ns : List Int) (s j k : Nat) : (dlw ns s j k).length ≤ 16 := by
  unfold dlw DD
  split
  · simp [dl]; omega
  · split
    · simp [dl]; omega
    · simp [dl]; omega
theorem ints_snoc {us : List Value} {D : List Int} (h : IntsAre us D) (d : Int) (t : Tok) : IntsAre (us ++ [.int d t]) (D ++ [d]) := by
  induction h with
  | nil => exact .cons _ _ .nil
  | cons a t _ ih => exact .cons a t ih
theorem law_k_end {ns : List Int} {i j k : Nat} {b : Bool} {c : RowSt} {tk tk5 tkF : Nat} {vs5 : List Value} {n5 : Nat} {ks5 : List Int} {x y : Nat} {t : Tok}
    (h : RowOk (dlw ns (i + 1) j k) c tk) (r : RowIn (dlw ns (i + 1) j k ++ [(PR ns b x - PR ns b y).fmod 8]) vs5 ks5 tk5) (hle : tk5 ≤ tkF) (hx : x = k + (i + 1)) (hy : y = k) (hj : j = if b then 1 else 0) (hk : k < 8 - (i + 1)) :
    RowOk (dlw ns (i + 1) j (k + 1)) ⟨vs5, n5, c.us ++ [.int ((PR ns b x - PR ns b y).fmod 8) t], c.nu + 1, ks5⟩ tkF := by
  subst hx; subst hy
  rw [dlw_snoc ns (i + 1) j _ b hj hk]
  refine ⟨r.fl, r.so, r.in8, r.pm, ints_snoc h.us _ _, fun v hv => ?_, ?_⟩
  · obtain ⟨b, t, e, z, q⟩ := r.tok v hv
    exact ⟨b, t, e, z, Nat.lt_of_lt_of_le q hle⟩
  · have := dlw_length ns (i + 1) j y
    simp; omega
theorem RowOk.usz {D : List Int} {c : RowSt} {tk : Nat} (h : RowOk D c tk) : c.us.length ≤ 1000 := by
  have := h.us.length
  have := h.len
  omega
theorem pick_row {h₀ : Heap} {L : Addr} {h : Heap} {Lg : List (Addr × Obj)} {ns : List Int} {T0 T1 P0 P1 : Addr} {yT0 yT1 yP0 yP1 : List Value} {n0 n1 n2 n3 : Nat} (j : Nat) (hj : j < 2) (_N : News h₀ L h Lg)
    (f0 : FloatsAre yT0 ((List.range 8).map fun k => eighth (PR ns false k % 8).toNat)) (f1 : FloatsAre yT1 ((List.range 8).map fun k => eighth (PR ns true k % 8).toNat))
    (p0 : IntsAre yP0 ((List.range 8).map fun k => PR ns false k)) (p1 : IntsAre yP1 ((List.range 8).map fun k => PR ns true k))
    (m0 : (T0, listOf yT0.toArray n0) ∈ Lg) (m1 : (T1, listOf yT1.toArray n1) ∈ Lg) (m2 : (P0, listOf yP0.toArray n2) ∈ Lg) (m3 : (P1, listOf yP1.toArray n3) ∈ Lg) :
    ∃ (b : Bool) (T P : Addr) (yT yP : List Value) (nT nP : Nat), j = (if b then 1 else 0) ∧ #[Value.ref T0, Value.ref T1][j]? = some (Value.ref T) ∧ #[Value.ref P0, Value.ref P1][j]? = some (Value.ref P) ∧
      (T, listOf yT.toArray nT) ∈ Lg ∧ (P, listOf yP.toArray nP) ∈ Lg ∧ FloatsAre yT ((List.range 8).map fun k => eighth (PR ns b k % 8).toNat) ∧ IntsAre yP ((List.range 8).map fun k => PR ns b k) := by
  have : j = 0 ∨ j = 1 := by omega
  rcases this with rfl | rfl
  · exact ⟨false, T0, P0, yT0, yP0, _, _, rfl, rfl, rfl, m0, m2, f0, p0⟩
  · exact ⟨true, T1, P1, yT1, yP1, _, _, rfl, rfl, rfl, m1, m3, f1, p1⟩
theorem at_j {arr : Array Value} {v : Value} {j : Nat} (h : arr[j]? = some v) : arr[(0 + (j : Int)).toNat]? = some v := by
  have e : (0 + (j : Int)).toNat = j := by omega
  rw [e]; exact h
theorem dlw_next (ns : List Int) (s j : Nat) (hj : j < 2) : dlw ns s j (8 - s) = dlw ns s (j + 1) 0 := by
  have : j = 0 ∨ j = 1 := by omega
  rcases this with rfl | rfl
  · exact dlw_next0 ns s
  · exact dlw_next1 ns s
theorem mem4 {α : Type} {x a b c d : α} {r : List α} (h : x ∈ r) : x ∈ a :: b :: c :: d :: r := .tail _ (.tail _ (.tail _ (.tail _ h)))
end Mine

open PySem PySem.W PySem.Calls PyProof.Rows
namespace Mine
section
variable {prog : Program} {w : World} {A : Around} {E : Value → Shared → Prop} {s : Shared} {value slice : Expr} {h₀ : Heap} {L l : Addr} {news : List (Addr × Obj)} {vs : List Value} {i : Int} {u : Tok} {n : Nat} {Q : Value → Shared → Prop} {ns : List Int}
theorem drawn_item
    (N : News h₀ L s.heap news) (hm : (l, listOf vs.toArray n) ∈ news) (hf : IntsAre vs ns) (ok : DrawnOk ns) (h0 : 0 ≤ i) (h1 : i < 10) (h : ∀ t, Q (.int (ns.getD i.toNat 0) t) s)
    (hs : subscripted slice false (.ref l) (.int i u) = operate [.ref l, .int i u] (getItem (.ref l) (.int i u)) := by with_unfolding_all rfl) :
    wpAny (model prog w) A (subscriptTail value slice (.ref l) (.int i u)) Q E s := by
  have hl : s.heap.IsList l vs.toArray := ⟨_, (N _ hm).1, rfl, n, rfl⟩
  have := ok.len
  obtain ⟨t, ht⟩ := hf.get i.toNat (ns.getD i.toNat 0) (by
    have : i.toNat < ns.length := by omega
    simp [List.getD, this])
  exact tail_any hl.typeIs slot_list_getitem.lookup (wpAny_getItem_list hl h0 (by omega) (by simpa using ht) (h t)) hs
theorem int_item {arr : Array Value} {x : Int} {t : Tok}
    (N : News h₀ L s.heap news) (hm : (l, listOf arr n) ∈ news) (h0 : 0 ≤ i) (h2 : i < 8) (hv : arr[i.toNat]? = some (.int x t)) (h : Q (.int x t) s)
    (hs : subscripted slice false (.ref l) (.int i u) = operate [.ref l, .int i u] (getItem (.ref l) (.int i u)) := by with_unfolding_all rfl) :
    wpAny (model prog w) A (subscriptTail value slice (.ref l) (.int i u)) Q E s := by
  have hl : s.heap.IsList l arr := ⟨_, (N _ hm).1, rfl, n, rfl⟩
  exact tail_any hl.typeIs slot_list_getitem.lookup (wpAny_getItem_list hl h0 (by omega) hv h) hs
end
theorem law_good {ns : List Int} {b : Bool} (h : BalP ns 7 b) : b = goodB ((ns.getD 0 0).fmod 2) ((ns.getD 1 0).fmod 2) ((ns.getD 2 0).fmod 2) ((ns.getD 3 0).fmod 3).toNat := by
  have p := plain_law ns
  rw [fmod_of _ 2 (by decide), fmod_of _ 2 (by decide), fmod_of _ 2 (by decide)]
  exact Bool.eq_iff_iff.mpr (Iff.trans h p)
theorem pick_nat (x y z e : Int) (h0 : 0 ≤ e) (h1 : e < 3) : pick x y z e = if e.toNat = 0 then x else if e.toNat = 1 then y else z := by
  have : e = 0 ∨ e = 1 ∨ e = 2 := by omega
  rcases this with rfl | rfl | rfl <;> rfl
theorem law_end1 {ns : List Int} {b : Bool} {t0 t1 t2 : Int} (h : BalP ns 7 b) (e0 : t0 = (ns.getD 0 0).fmod 2) (e1 : t1 = (ns.getD 1 0).fmod 2) (e2 : t2 = (ns.getD 2 0).fmod 2) (hs : t0 + (t1 + (t2 + 0)) = 2) :
    (b == (pick (t0 + t1) (t0 + t2) (t1 + t2) ((ns.getD 3 0).fmod 3) == 1)) = true := by
  have g := law_good h
  rw [← e0, ← e1, ← e2] at g
  have h3 := fmod3 (ns.getD 3 0)
  have hs' : t0 + t1 + t2 = 2 := by omega
  rw [pick_nat _ _ _ _ h3.1 h3.2, g]
  unfold goodB
  rw [decide_eq_true hs', Bool.true_and]
  simp only [beq_iff_eq]
  exact Bool.eq_iff_iff.mpr (by simp)
theorem law_end2 {ns : List Int} {b : Bool} {t0 t1 t2 : Int} (h : BalP ns 7 b) (e0 : t0 = (ns.getD 0 0).fmod 2) (e1 : t1 = (ns.getD 1 0).fmod 2) (e2 : t2 = (ns.getD 2 0).fmod 2) (hs : ¬ t0 + (t1 + (t2 + 0)) = 2) :
    (b == (t0 + (t1 + (t2 + 0)) == 2)) = true := by
  have g := law_good h
  rw [← e0, ← e1, ← e2] at g
  have hs' : ¬ t0 + t1 + t2 = 2 := by omega
  unfold goodB at g
  rw [decide_eq_false hs', Bool.false_and] at g
  rw [beq_eq_false_iff_ne.mpr hs, g]
  rfl
theorem good_true {c : ClaimW} {cl : Str → Option Addr} {mean : ExcName → Option Value} {args : List WData} {s₁ s' : Shared} {b : Bool} (e : b = true) (h : GoodW c cl mean args s₁ (.ok (.ret (.bool true))) s') : GoodW c cl mean args s₁ (.ok (.ret (.bool b))) s' := e ▸ h
end Mine

open PySem PySem.W PySem.Calls PyProof.Rows
namespace Mine
open PySem.Flt (FloatsAre)
section
variable {prog : Program} {w : World} {A : Around} {E : Value → Shared → Prop} {env : Env} {s : Shared} {h₀ : Heap} {L : Addr} {m : Str → Option Value} {news : List (Addr × Obj)}
def CompL (prog : Program) (w : World) (A : Around) (env : Env) (scope : Scope) (cl : List (Str × Addr)) (x : Str) (elt : Expr) (G : Value → Value → Prop) (Q : Value → Shared → Prop) (it : Value) (s₂ : Shared) : Prop :=
  ∃ I fp wr n P St, it = .ref I ∧ Walks prog w A I fp wr n P St ∧ n ≤ sizeLine ∧ St 0 s₂.heap ∧ (∀ b ∈ fp, b < s₂.heap.objs.size) ∧
      QuietOnC prog w A env scope cl x [] elt wr P (fun _ => true) G s₂ ∧
      (∀ D h' tk ys (vs : List Value), s₂.heap.get? D = none → h'.IsList D ys → h'.PlainList D ys → vs.length = n → (∀ j v, vs[j]? = some v → P j v) → Paired G (vs.filter (fun _ => true)) ys.toList →
        (∀ b o, b ∉ wr → s₂.heap.get? b = some o → h'.get? b = some o) → Q (.ref D) { s₂ with heap := h', toks := tk })
theorem row_comp {elt iter : Expr} {x : Str} {px : Pos} {scope : Scope} {cl : List (Str × Addr)} {pos : Pos} {Q : Value → Shared → Prop} (G : Value → Value → Prop)
    (hclos : closureFor scope env = pure cl) (hcell : ∀ y ∈ scope.names, y.2 ≠ .cell) (hkind : scope.kind = .function)
    (hnames : ∀ y ∈ scope.names, y.2 = .local → scope.names.lookup y.1 = some .local) (hx : scope.names.lookup x = some .local)
    (h : wpAny (model prog w) A (eval iter env) (fun xv s₁ => s.toks ≤ s₁.toks → wpAny (model prog w) A (pyIter xv) (fun it s₂ => CompL prog w A env scope cl x elt G Q it s₂) E s₁) E s)
    (hs : ∀ x, foldedSetIterable iter env x = pure x) :
    wpAny (model prog w) A (eval (.ListComp elt [⟨.Name x px, iter, [], 0⟩] scope pos) env) Q E s :=
  wpAny_ListComp_free (fun _ => true) G hclos hcell hkind hnames hx (wpAny_with_toks (n := s.toks) (Nat.le_refl _) (wpAny_mono h (fun _ _ q => q) (fun _ _ e _ => e))) hs
theorem comp_row {Q : Value → Shared → Prop} {l : Addr} {vs : List Value} {n : Nat} {elt : Expr} {scope : Scope} {cl : List (Str × Addr)} {x : Str} (G : Value → Value → Prop)
    (hh : A.handled = none) (hz : vs.length ≤ sizeLine) (F : Fr h₀ L s.heap m) (N : News h₀ L s.heap news) (hm : (l, listOf vs.toArray n) ∈ news)
    (helt : ∀ C v s₃ m₃ E', v ∈ vs → s₃.heap.Ns C m₃ → m₃ x = some v → Fr h₀ L s₃.heap m → News h₀ L s₃.heap news → InElt s₃.heap s₃.heap → s.toks ≤ s₃.toks →
      wpAny (model prog w) A (eval elt (compEnvC scope cl C env)) (fun y s₄ => EltEndV G v s₃ y s₄) E' s₃)
    (done : ∀ D h' tk (ys : List Value) n', (∀ p ∈ news, @Ne Nat p.1 D) → Fr h₀ L h' m → News h₀ L h' ((D, listOf ys.toArray n') :: news) → Paired G vs ys → Q (.ref D) { s with heap := h', toks := tk }) :
    wpAny (model prog w) A (pyIter (.ref l)) (fun it s₂ => CompL prog w A env scope cl x elt G Q it s₂) E s := comp_list G hh hz F N hm helt done
/-- hue * 8 -/
def GMul (v y : Value) : Prop := ∀ b t, v = .float b t → ∃ t', y = .float (Float64.mul b (Float64.ofInt 8)) t'
/-- hue + 0.5 -/
def GHalf (n₀ : Nat) (v y : Value) : Prop := ∀ b t, v = .float b t → ∃ t', y = .float (Float64.add b 4602678819172646912) t' ∧ n₀ ≤ t' ∧ t < t'
theorem GMul.mk {b : UInt64} {t t' : Tok} : GMul (.float b t) (.float (Float64.mul b (Float64.ofInt 8)) t') := fun _ _ e => by cases e; exact ⟨t', rfl⟩
theorem GHalf.mk {n₀ : Nat} {b : UInt64} {t t' : Tok} (h : n₀ ≤ t') (h' : t < t') : GHalf n₀ (.float b t) (.float (Float64.add b 4602678819172646912) t') := fun _ _ e => by cases e; exact ⟨t', rfl, h, h'⟩
theorem noneBooked_of {K : Frag} {h h' : Heap} {p : Program} {loose : List Str} {mean : ExcName → Option Value} {mg mb : Str → Option Value} (X : K.In h) (T : Top p loose mean mg mb h) (F : Fr h L h' m) (e : nsIn K cStatics sharingNotToldKey = some none) : NoneBooked h' :=
  let ⟨mc, hn, _⟩ := T.nolimit
  ⟨mc, hn.keeps F.keep, ns_none_of X hn e⟩
theorem ints_at {us : List Value} {ms : List Int} (h : IntsAre us ms) {j : Nat} (hj : j < us.length) (hj' : j < ms.length) : ∃ t, us[j] = .int ms[j] t := by
  obtain ⟨t, ht⟩ := h.get j ms[j] (List.getElem?_eq_getElem hj')
  exact ⟨t, by rw [List.getElem?_eq_getElem hj] at ht; exact Option.some.inj ht⟩
theorem floats_at {us : List Value} {ms : List UInt64} (h : FloatsAre us ms) {j : Nat} (hj : j < us.length) (hj' : j < ms.length) : ∃ t, us[j] = .float ms[j] t := by
  obtain ⟨t, ht⟩ := h.at' j ms[j] (List.getElem?_eq_getElem hj')
  exact ⟨t, by rw [List.getElem?_eq_getElem hj] at ht; exact Option.some.inj ht⟩
theorem ne_mul8 {D : List Int} {c : RowSt} {tk : Nat} {l1 l2 : Addr} {ys us : List Value} {n1 n2 : Nat} {ms : List Int} {Q : Value → Shared → Prop}
    (ok : RowOk D c tk) (N : News h₀ L s.heap news) (h1 : (l1, listOf ys.toArray n1) ∈ news) (p : Paired GMul c.vs ys) (h2 : (l2, listOf us.toArray n2) ∈ news) (hi : IntsAre us ms) (pm : ms.Perm D) (so : ms.Pairwise (· ≤ ·)) (hu : A.units < cLine)
    (h : Q (.bool false) s) : wpAny (model prog w) A (compareOp .NotEq (.ref l1) (.ref l2)) Q E s := by
  have ek : ms = c.ks := List.Perm.eq_of_pairwise (le := (· ≤ ·)) (fun a b _ _ h h' => Int.le_antisymm h h') so ok.so (pm.trans ok.pm.symm)
  subst ek
  obtain ⟨pl, pf⟩ := paired_of p
  have l1' := ok.fl.length
  have l2' := hi.length
  rw [List.length_map] at l1'
  have hl1 : s.heap.IsList l1 ys.toArray := ⟨_, (N _ h1).1, rfl, n1, rfl⟩
  have hl2 : s.heap.IsList l2 us.toArray := ⟨_, (N _ h2).1, rfl, n2, rfl⟩
  have R := SeqAt.RcNeAt.lists (A := A) (e := fun _ => true) hl1 hl2 (by simp; omega) hu (fun j j1 j2 => by
    have j1' : j < ys.length := by simpa using j1
    have j2' : j < us.length := by simpa using j2
    have jk : j < c.ks.length := by omega
    have jm : j < (c.ks.map e8).length := by rw [List.length_map]; exact jk
    obtain ⟨t, e⟩ := ints_at hi j2' (by omega)
    obtain ⟨t2, e2⟩ := floats_at ok.fl (j := j) (by omega) (by rw [List.length_map]; omega)
    obtain ⟨t3, e3⟩ := pf j c.vs[j] ys[j] (List.getElem?_eq_getElem (by omega)) (List.getElem?_eq_getElem j1') _ _ e2
    have g1 : ys.toArray[j] = ys[j] := by simp
    have g2 : us.toArray[j] = us[j] := by simp
    rw [g1, g2, e, e3]
    have key := eqAt_fi (A := A.in1) (s := s) (Float64.mul ((c.ks.map e8)[j]'jm) (Float64.ofInt 8)) t3 c.ks[j] t
    rw [List.getElem_map] at key ⊢
    rwa [e8_mul (ok.in8 _ (List.getElem_mem _))] at key)
  refine R prog w E Q ?_
  have e : (List.range ys.toArray.size).all (fun _ => true) = true := List.all_eq_true.mpr fun _ _ => rfl
  rw [e]
  exact h
/-- the second comparison of the law -/
theorem ne_half {D : List Int} {c : RowSt} {tk N₀ r : Nat} {l1 l2 : Addr} {ys : List Value} {n1 n2 : Nat} {Q : Value → Shared → Prop}
    (ok : RowOk D c tk) (hN : tk ≤ N₀) (N : News h₀ L s.heap news) (h1 : (l1, listOf ys.toArray n1) ∈ news) (p : Paired (GHalf N₀) (c.vs.take r) ys) (h2 : (l2, listOf (c.vs.drop r).toArray n2) ∈ news) (hr : r ≤ c.ks.length) (c1 : ∀ x ∈ c.ks.take r, x < 4)
    (hb : NoneBooked s.heap) (hu : A.units < cLine)
    (h : Q (.bool (!decide ((c.ks.take r).map (· + 4) = c.ks.drop r))) s) : wpAny (model prog w) A (compareOp .NotEq (.ref l1) (.ref l2)) Q E s := by
  obtain ⟨pl, pf⟩ := paired_of p
  have l1' := ok.fl.length
  rw [List.length_map] at l1'
  rw [List.length_take, Nat.min_eq_left (by rw [l1']; exact hr)] at pl
  have hl1 : s.heap.IsList l1 ys.toArray := ⟨_, (N _ h1).1, rfl, n1, rfl⟩
  have hl2 : s.heap.IsList l2 (c.vs.drop r).toArray := ⟨_, (N _ h2).1, rfl, n2, rfl⟩
  by_cases hsz : ys.toArray.size = (c.vs.drop r).toArray.size
  · have hsz' : ys.length = c.vs.length - r := by simpa using hsz
    have R := SeqAt.RcNeAt.lists (A := A) (e := fun j => decide ((c.ks.getD j 0) + 4 = c.ks.getD (r + j) 0)) hl1 hl2 hsz hu (fun j j1 j2 => by
      have j1' : j < ys.length := by simpa using j1
      have j2' : j < (c.vs.drop r).length := by simpa using j2
      have jd : j < c.vs.length - r := by rwa [List.length_drop] at j2'
      have jk : j < c.ks.length := by omega
      have rk : r + j < c.ks.length := by omega
      have jr : j < r := by omega
      obtain ⟨t, e⟩ := floats_at ok.fl (j := r + j) (by omega) (by rw [List.length_map]; exact rk)
      obtain ⟨t2, e2⟩ := floats_at ok.fl (j := j) (by omega) (by rw [List.length_map]; exact jk)
      have jt : j < (c.vs.take r).length := by rw [List.length_take]; omega
      have e3 : (c.vs.take r)[j]? = some c.vs[j] := by rw [List.getElem?_take_of_lt jr, List.getElem?_eq_getElem (by omega)]
      obtain ⟨t3, e4, z1, z2⟩ := pf j c.vs[j] ys[j] e3 (List.getElem?_eq_getElem j1') _ _ e2
      have g1 : ys.toArray[j] = ys[j] := by simp
      have g2 : (c.vs.drop r).toArray[j] = c.vs[r + j] := by simp
      rw [g1, g2, e, e4]
      obtain ⟨b', u', q1, q2, q3⟩ := ok.tok c.vs[r + j] (List.getElem_mem _)
      rw [e] at q1
      injection q1 with q4 q5
      subst q5
      have r1 := ok.in8 _ (List.getElem_mem jk)
      have r2 := ok.in8 _ (List.getElem_mem rk)
      have r3 : c.ks[j] < 4 := c1 _ (List.mem_iff_getElem?.mpr ⟨j, by rw [List.getElem?_take_of_lt jr, List.getElem?_eq_getElem jk]⟩)
      have q3' : @LT.lt Nat _ t tk := q3
      have z1' : @LE.le Nat _ N₀ t3 := z1
      have t0 : @Ne Nat t3 0 := by omega
      have tne : @Ne Nat t3 t := by omega
      simp only [List.getElem_map]
      rw [e8_add _ r1.1 r3]
      have k1 : (Float64.cmp (e8 (c.ks[j] + 4)) (e8 c.ks[r + j]) == some Ordering.eq) = decide (c.ks[j] + 4 = c.ks[r + j]) := e8_eq (by omega) r2
      have key := eqAt_ff (A := A.in1) (s := s) (e8 (c.ks[j] + 4)) t3 (e8 c.ks[r + j]) t (by rw [q2, beq_eq_false_iff_ne.mpr t0]; rfl) (beq_eq_false_iff_ne.mpr tne) hb (fun hab => by
        rw [← eq_of_beq hab, e8_eq (by omega) (by omega)]; exact decide_eq_true rfl)
      rw [k1] at key
      simpa [List.getD, jk, rk] using key)
    refine R prog w E Q ?_
    have e : (List.range ys.toArray.size).all (fun j => decide ((c.ks.getD j 0) + 4 = c.ks.getD (r + j) 0)) = decide ((c.ks.take r).map (· + 4) = c.ks.drop r) := by
      rw [Bool.eq_iff_iff, List.all_eq_true, decide_eq_true_iff]
      have hs : ys.toArray.size = ys.length := by simp
      rw [hs]
      constructor
      · intro a
        refine List.ext_getElem (by rw [List.length_map, List.length_take, List.length_drop, Nat.min_eq_left hr]; omega) (fun j j1 j2 => ?_)
        have j2' : j < c.ks.length - r := by rwa [List.length_drop] at j2
        have := of_decide_eq_true (a j (List.mem_range.mpr (by omega)))
        have jk : j < c.ks.length := by omega
        have rk : r + j < c.ks.length := by omega
        simpa [List.getD, jk, rk] using this
      · intro a j hj
        have hj' : j < ys.length := List.mem_range.mp hj
        have jk : j < c.ks.length := by omega
        have rk : r + j < c.ks.length := by omega
        have jr : j < r := by omega
        have b := congrArg (fun l => l[j]?) a
        refine decide_eq_true ?_
        simpa [List.getD, jk, rk, jr, List.getElem?_take_of_lt jr] using b
    rw [e]
    exact h
  · refine SeqAt.RcNeAt.lists_lengths (A := A) hl1 hl2 (by simpa using hsz) hu prog w E Q ?_
    have hsz' : ¬ ys.length = c.vs.length - r := by simpa using hsz
    have e : decide ((c.ks.take r).map (· + 4) = c.ks.drop r) = false := decide_eq_false fun a => by
      have := congrArg List.length a
      rw [List.length_map, List.length_take, List.length_drop, Nat.min_eq_left hr] at this
      omega
    rw [e] at h
    exact h
end
theorem bisect_law {w : World} {mean : ExcName → Option Value} {mg mb : Str → Option Value}
   {dp un : Nat} {gd : Option (List Code)} {cn : Str} {cs : Scope} {a : Addr} {ccd : Value} {cl : List (Str × Addr)} {outer : List Env} {A₀ : Around} {base h₀ : Heap} {L : Addr} {m : Str → Option Value} {s : Shared} {Q E : Value → Shared → Prop} {news : List (Addr × Obj)}
   {l : Addr} {c : RowSt} {D : List Int} {tk : Nat} {n : Nat} {t : Tok}
   (B : Below A₀ base outer h₀) (F : Fr h₀ L s.heap m) (X : (hd.heap_39 w.params).In h₀) (N : News h₀ L s.heap news)
   (T : Top hd.view_39 (looseW hd.view_39 ["insort_left", "bisect_left"]) mean mg mb h₀) (hk : cs.kind = .function) (hd : dp + 3 < recursionLimit) (hu : un + 8 * 3 < cLine)
   (ok : RowOk D c tk) (hm : (l, listOf c.vs.toArray n) ∈ news)
   (h : ∀ r t' h' tk', s.toks ≤ tk' → Fr h₀ L h' m → News h₀ L h' news → r ≤ c.ks.length → (∀ x ∈ c.ks.take r, x < 4) → (∀ x ∈ c.ks.drop r, 4 ≤ x) → Q (.int ((r : Nat) : Int) t') { s with heap := h', toks := tk' }) :
   wpAny (model PySem.Challenge.rw_sr0028_01.row.prog w) (ktrTop dp un gd cn cs L a ccd cl outer) (call (.ref 32) [.ref l, .float 4602678819172646912 t]) Q E s := by
  have hl : c.ks.length ≤ 100 := ok.pm.length_eq ▸ ok.len
  rw [half_e8]
  exact bisect_use B F X N T hk hd hu hm ok.fl (by simp; omega) (mono_e8 ok.in8 (by decide) ok.so) (fun r t' h' tk' hle F' N' ct => by
    obtain ⟨hr, c1, c2⟩ := cut_e8 ok.in8 (by decide) ct
    exact h r t' h' tk' hle F' N' hr c1 c2)
theorem RowOk.vsz {D : List Int} {c : RowSt} {tk : Nat} (h : RowOk D c tk) : c.vs.length ≤ 100 := by
  have := h.fl.length
  have := h.len
  have := h.pm.length_eq
  rw [List.length_map] at *
  omega
theorem RowOk.kvs {D : List Int} {c : RowSt} {tk : Nat} (h : RowOk D c tk) : c.ks.length ≤ c.vs.length := by
  have := h.fl.length
  rw [List.length_map] at this
  omega
theorem toks_ok {α : Type} {M : Model} {A : Around} {s : Shared} {t : Sem α} {Q : α → Shared → Prop} {E : Value → Shared → Prop} {D : List Int} {c : RowSt} {tk : Nat} (_ok : RowOk D c tk) (hn : tk ≤ s.toks)
    (h : wpAny M A t (fun a s' => tk ≤ s'.toks → Q a s') E s) : wpAny M A t Q E s := wpAny_with_toks (n := tk) hn (wpAny_mono h (fun _ _ q => q) (fun _ _ e _ => e))
theorem half_comp {prog : Program} {w : World} {A : Around} {E : Value → Shared → Prop} {env : Env} {s : Shared} {elt iter : Expr} {x : Str} {px : Pos} {scope : Scope} {cl : List (Str × Addr)} {pos : Pos} {Q : Value → Shared → Prop} {D : List Int} {c : RowSt} {tk : Nat} (_ok : RowOk D c tk)
    (hclos : closureFor scope env = pure cl) (hcell : ∀ y ∈ scope.names, y.2 ≠ .cell) (hkind : scope.kind = .function)
    (hnames : ∀ y ∈ scope.names, y.2 = .local → scope.names.lookup y.1 = some .local) (hx : scope.names.lookup x = some .local)
    (h : wpAny (model prog w) A (eval iter env) (fun xv s₁ => s.toks ≤ s₁.toks → wpAny (model prog w) A (pyIter xv) (fun it s₂ => CompL prog w A env scope cl x elt (GHalf tk) Q it s₂) E s₁) E s)
    (hs : ∀ x, foldedSetIterable iter env x = pure x) :
    wpAny (model prog w) A (eval (.ListComp elt [⟨.Name x px, iter, [], 0⟩] scope pos) env) Q E s := row_comp (GHalf tk) hclos hcell hkind hnames hx h hs
section
variable {prog : Program} {w : World} {A : Around} {E : Value → Shared → Prop} {s : Shared} {h₀ : Heap} {L l : Addr} {m : Str → Option Value} {news : List (Addr × Obj)} {value slice : PySem.Expr} {vs : List Value} {n r : Nat} {t : Tok} {Q : Value → Shared → Prop}
theorem pick_to (vs : List Value) (r : Nat) (hr : r ≤ vs.length) : slicePick vs.toArray none (some (r : Int)) none = (vs.take r).toArray := by
  have e : sliceBounds none (some (r : Int)) none vs.toArray.size = (((0 : Nat) : Int), ((r : Nat) : Int), 1) := by
    simp only [sliceBounds, Option.getD_none, show (1 : Int) > 0 by decide, if_true, if_neg (show ¬ ((r : Int) < 0) by omega), List.size_toArray]
    congr 1
    congr 1
    omega
  rw [kmk_pick_nat _ e]
  simp
theorem pick_from (vs : List Value) (r : Nat) (hr : r ≤ vs.length) : slicePick vs.toArray (some (r : Int)) none none = (vs.drop r).toArray := by
  have e : sliceBounds (some (r : Int)) none none vs.toArray.size = (((r : Nat) : Int), ((vs.toArray.size : Nat) : Int), 1) := by
    simp only [sliceBounds, Option.getD_none, show (1 : Int) > 0 by decide, if_true, if_neg (show ¬ ((r : Int) < 0) by omega), List.size_toArray]
    congr 1
    omega
  rw [kmk_pick_nat _ e]
  congr 1
  refine List.take_of_length_le ?_
  simp
theorem slice_to (F : Fr h₀ L s.heap m) (N : News h₀ L s.heap news) (hm : (l, listOf vs.toArray n) ∈ news) (hr : r ≤ vs.length) (hz : vs.length ≤ sizeLine)
    (h : ∀ D h', Fr h₀ L h' m → News h₀ L h' ((D, listOf (vs.take r).toArray 0) :: news) → (∀ p ∈ news, p.1 < D) → Q (.ref D) { s with heap := h' })
    (hs : subscripted slice false (.ref l) (.ref s.heap.objs.size) = operate [.ref s.heap.objs.size, .ref l] (getItem (.ref l) (.ref s.heap.objs.size))) (ht : ∀ r, letTemporaryGo value (.ref l) r = pure ()) :
    wpAny (model prog w) A (subscriptTail value slice (.ref l) (.ref s.heap.objs.size)) Q E { s with heap := s.heap.push { cls := .type "slice", data := .fields #[.none, .int (r : Int) t, .none] } } :=
  kmk_slice F N (News.isList N hm) IsPart.none (IsPart.int _ _) (fun D h' F' N' l1 => h D h' F' (by rwa [pick_to vs r hr] at N') l1) hs ht (by simpa using hz)
theorem slice_from (F : Fr h₀ L s.heap m) (N : News h₀ L s.heap news) (hm : (l, listOf vs.toArray n) ∈ news) (hr : r ≤ vs.length) (hz : vs.length ≤ sizeLine)
    (h : ∀ D h', Fr h₀ L h' m → News h₀ L h' ((D, listOf (vs.drop r).toArray 0) :: news) → (∀ p ∈ news, p.1 < D) → Q (.ref D) { s with heap := h' })
    (hs : subscripted slice false (.ref l) (.ref s.heap.objs.size) = operate [.ref s.heap.objs.size, .ref l] (getItem (.ref l) (.ref s.heap.objs.size))) (ht : ∀ r, letTemporaryGo value (.ref l) r = pure ()) :
    wpAny (model prog w) A (subscriptTail value slice (.ref l) (.ref s.heap.objs.size)) Q E { s with heap := s.heap.push { cls := .type "slice", data := .fields #[.int (r : Int) t, .none, .none] } } :=
  kmk_slice F N (News.isList N hm) (IsPart.int _ _) IsPart.none (fun D h' F' N' l1 => h D h' F' (by rwa [pick_from vs r hr] at N') l1) hs ht (by simpa using hz)
end
end Mine

open PySem PySem.W PySem.Calls PyProof.Rows
namespace Mine
open PySem.Flt (FloatsAre)
theorem ne_led {news : List (Addr × Obj)} {a D : Nat} {o : Obj} (h : ∀ p ∈ news, @Ne Nat p.1 D) (hm : (a, o) ∈ news) : a ≠ D := h _ hm
theorem ne_ledS {news : List (Addr × Obj)} {a D : Nat} {o : Obj} (h : ∀ p ∈ news, @Ne Nat p.1 D) (hm : (a, o) ∈ news) : D ≠ a := (h _ hm).symm
section
variable {M : Model} {A : Around} {E : Value → Shared → Prop} {s : Shared} {name : Str} {scope : Scope} {L a : Addr} {cd : Value} {h₀ : Heap} {m : Str → Option Value} {news : List (Addr × Obj)}
theorem stCU {x : Str} {c : Addr} {o : Obj} {v₀ : Option Value} {v : Value} {g : Obj → List (Addr × Obj)} {Q : Unit → Shared → Prop} (F : Fr h₀ L s.heap m) (N : News h₀ L s.heap news)
    (hc : (cellsFrom (L + 1) scope.names []).lookup x = some c) (U : UpdF c o news g) (hd : o.data = .cell v₀)
    (h : ∀ h' o', Fr h₀ L h' m → News h₀ L h' (g o') → o'.data = .cell (some v) → Q () { s with heap := h' })
    (hk : scope.kind = .function := by rfl) (hl : (envOfC name scope L a cd).kindOf x = some .cell := by rfl) :
    wpAny M A (storeName (envOfC name scope L a cd) x v) Q E s := by
  obtain ⟨own, rest, rfl, hg, h1, h2⟩ := U.split
  refine stCN F N hc hd h1 h2 (fun h' o' F' N' e' => h h' o' F' (hg o' ▸ N') e') hk hl
end
theorem law_off {z y : Str} (h : (["row", "due", "which", "k", "half"] : List Str).contains z = false) (hy : (["row", "due", "which", "k", "half"] : List Str).contains y = true) : ¬ z = y := by
  rintro rfl
  rw [h] at hy
  cases hy
theorem law_offk {z : Str} (h : (["row", "due", "which", "k", "half"] : List Str).contains z = false) : ¬ (["k"] : List Str).contains z = true := by
  intro e
  have : z = "k" := by simpa using e
  exact law_off h rfl this
theorem law_offs {z : Str} (h : (["row", "due", "which", "k", "half"] : List Str).contains z = false) : ¬ (["row", "due", "which", "k", "half"] : List Str).contains z = true := by
  intro e
  rw [h] at e
  cases e
local macro_rules | `(tactic| k_ne) => `(tactic| (refine neN ?_; (try dsimp only); first | exact Nat.ne_of_lt (by with_reducible assumption) | exact Nat.ne_of_gt (by with_reducible assumption) | (refine' ne_led ?h ?m; (case h => with_reducible assumption); (case m => k_mem)) | (refine' ne_ledS ?h ?m; (case h => with_reducible assumption); (case m => k_mem)) | fail "k_ne"))
local macro_rules | `(tactic| walk_at "call ref") => `(tactic| (k_here; refine Stop.of ?_))
local macro_rules | `(tactic| walk_at "storeName") => `(tactic| (k_here; k_dflt (refine' stCU ?F ?N ?c ?U ?d ?_ ?a ?b; (case a => rfl); (case b => rfl); (case F => k_asm); (case N => k_asm); (case c => rfl); (case U => k_updF); (case d => assumption); k_whole); intro h' o' F' N' d'; (try dsimp only at N'); (try k_sweep)))
local macro_rules | `(tactic| walk_at "exec For Name List cons nil") => `(tactic| (k_here; (rename Fr _ _ _ _ => lF'); (with_unfolding_all refine' For_turns lF' ?_; k_whole)))
local macro_rules | `(tactic| walk_at "exec Expr") => `(tactic| ((fail_if_success (rename BalP _ _ _ => hq')); k_here; (rename Fr _ (Env.locals _) _ _ => FX); (rename News _ (Env.locals _) _ _ => NX); clear NX FX; refine wpAny_Expr_any ?_))
local macro_rules | `(tactic| walk_at "eval ListComp") => `(tactic| (k_here; refine Stop.of ?_))
local macro_rules | `(tactic| walk_at "eval Name") => `(tactic| (k_here; (with_reducible show wpAny _ _ (eval (Expr.Name _ _) (compEnvC _ _ _ _)) _ _ _); k_dflt (first
  | (refine' LCgL.ld_global ?F ?X ?T ?e ?_ ?g ?k ?x ?y; (case g => rfl); (case k => rfl); (case x => rfl); (case y => decide); (case F => k_asm); (case X => k_asm); (case T => k_asm); (case e => k_is))
  | (refine' ldVarK ?n ?v ?_ ?k ?x ?y; (case k => rfl); (case x => rfl); (case y => decide); (case n => assumption); (case v => assumption))
  | (refine' lcf_cell ?N ?c ?m ?d ?_ ?a ?b ?e; (case a => rfl); (case b => rfl); (case e => decide); (case N => k_asm); (case c => rfl); (case m => k_mem); (case d => k_asm))
  | fail "name in block")))
local macro_rules | `(tactic| walk_at "pyIter ref") => `(tactic| (first | (with_reducible show wpAny _ _ _ (fun it s₂ => CompAt _ _ _ _ _ _ _ _ _ _ _ it s₂) _ _) | (with_reducible show wpAny _ _ _ (fun it s₂ => CompL _ _ _ _ _ _ _ _ _ _ it s₂) _ _) | fail "it"); refine Stop.of ?_)
local macro_rules | `(tactic| walk_at "exec For Name Call cons nil") => `(tactic| refine Stop.of ?_)
local macro_rules | `(tactic| walk_at "EltEnd") => `(tactic| ((rename InElt _ _ => j1'); exact EltEnd.mk ⟨_, rfl⟩ j1'))
local macro_rules | `(tactic| walk_at "newList") => `(tactic| (k_here; (rename InElt _ _ => j1'); k_dflt (refine' newListE ?F ?N j1' ?_ ?z; (case F => k_asm); (case N => k_asm); (case z => exact Nat.le_of_ble_eq_true (by with_unfolding_all rfl))); intro l' h' F' N' l1' i'; (try k_lt l1')))
local macro_rules | `(tactic| walk_at "call builtin:list.append") => `(tactic| ((fail_if_success (fail_if_success (rename RowOk _ _ _ => hq'))); k_here; k_dflt (refine' append_L ?F ?N ?U ?z ?_; (case F => k_asm); (case N => k_asm); (case U => k_updF); (case z => exact RowOk.usz (by assumption))); intro h' F' N'; (try dsimp only at N')))
local macro_rules | `(tactic| walk_at "subscriptTail") => `(tactic| ((fail_if_success (fail_if_success (rename RowOk _ _ _ => hq'))); k_here; k_dflt (first
  | (refine' told_item ?N ?m ?f ?i0 ?i1 ?_; (case N => k_asm); (case m => refine mem4 ?_; assumption); (case f => assumption); (case i0 => omega); (case i1 => omega); intro _)
  | (refine' plain_item ?N ?m ?f ?i0 ?i1 ?_; (case N => k_asm); (case m => refine mem4 ?_; assumption); (case f => assumption); (case i0 => omega); (case i1 => omega); intro _)
  | (refine' ref_item ?N ?m ?i0 ?i1 ?v ?_; (case N => k_asm); (case m => k_mem); (case i0 => omega); (case i1 => omega); (case v => exact at_j (by assumption)))
  | fail "item")))
local macro_rules | `(tactic| walk_at "subscriptTail") => `(tactic| ((fail_if_success (rename RowOk _ _ _ => hq')); k_here; k_dflt (first
  | (refine' drawn_item ?N ?m ?f ?o ?i0 ?i1 ?_; (case N => k_asm); (case m => k_mem); (case f => assumption); (case o => assumption); (case i0 => decide); (case i1 => decide); intro _)
  | (refine' bits_item ?N ?m (fmod3 _).1 (fmod3 _).2 ?_; (case N => k_asm); (case m => k_mem); intro _)
  | (refine' int_item ?N ?m ?i0 ?i1 ?v ?_; (case N => k_asm); (case m => k_mem); (case i0 => decide); (case i1 => decide); (case v => rfl))
  | fail "item")))
local macro_rules | `(tactic| walk_at "execs cons") => `(tactic| ((fail_if_success (fail_if_success (rename Paired _ _ _ => hq'))); (with_reducible refine wpAny_execs_cons ?_); try dsimp only))
local macro_rules | `(tactic| walk_at "execs nil") => `(tactic| ((fail_if_success (fail_if_success (rename Paired _ _ _ => hq'))); refine wpAny_execs_nil ?_))
local macro_rules | `(tactic| walk_at "subscriptTail Name Slice ref ref") => `(tactic| (k_here; k_dflt (first | refine' slice_to ?F ?N ?m ?r ?z ?_ ?s ?t | refine' slice_from ?F ?N ?m ?r ?z ?_ ?s ?t); (case F => k_asm); (case N => k_asm); (case m => k_mem); (case r => assumption); (case z => assumption); (case s => with_unfolding_all rfl); (case t => kmk_pure); intro D' h' F' N' l1; (try k_lt l1)))
local macro_rules | `(tactic| walk_at "call builtin:sorted") => `(tactic| (k_here; refine Stop.of ?_))
local macro_rules | `(tactic| walk_at "compareOp NotEq ref ref") => `(tactic| (k_here; refine Stop.of ?_))
local macro_rules | `(tactic| walk_at "EltEndV") => `(tactic| ((rename InElt _ _ => j1'); exact EltEndV.mk GMul.mk j1'))
set_option maxRecDepth 100000 in
set_option maxHeartbeats 16000000 in
theorem law_all : PySem.Challenge.rw_sr0028_01.Holds := by
  w_top off
  refine hd (by
    k_go0
    (all_goals try k_fold)
    k_steps
    (unfold Stop; k_dflt (refine' drawn_use ?B_1 ?F_1 ?X_1 ?N_1 ?T_1 ?K_1 ?d_1 ?u_1 ?hL_1 ?hI_1 ?h63_1 ?_; (case B_1 => k_asm); (case F_1 => k_asm); (case X_1 => k_asm); (case N_1 => k_asm); (case T_1 => k_asm); (case K_1 => first | exact rfl | assumption); (case d_1 => first | (dsimp only [ktrTop]; omega) | ktr_room); (case u_1 => first | (dsimp only [ktrTop]; omega) | ktr_units); (case hL_1 => assumption); (case hI_1 => assumption); (case h63_1 => omega)); intro D' vs' n' ns' h' tk' F' N' l' hi' ok'; (try k_lt l'))
    k_steps
    (repeat (rename (@LT.lt Nat _ _ _) ∧ _ => hc'; have hc1' := hc'.1; have hc2' := hc'.2; clear hc'))
    (unfold Stop; (rename DrawnOk _ => ok'); (rename _ = Data.cell (some (Value.bool _)) => hb'); (k_dflt (refine' told_comp ok' hb' ?k81_2 ?k82_2 ?k83_2 ?k84_2 ?k85_2 ?_ ?k86_2; (case k81_2 => with_unfolding_all rfl); (case k82_2 => decide); (case k83_2 => rfl); (case k84_2 => decide); (case k85_2 => rfl); (case k86_2 => intro _; rfl))))
    k_steps
    (unfold Stop; k_dflt (refine' comp_range _ ?hh_3 ?hr_3 ?hsmall_3 ?hn_3 ?hz_3 ?F_3 ?N_3 ?helt_3 ?done_3; (case hh_3 => rfl); (case hr_3 => assumption); (case hsmall_3 => decide); (case hn_3 => rfl); (case hz_3 => decide); (case F_3 => k_asm); (case N_3 => k_asm)))
    case helt_3 =>
      intro C' k' t' s₃' m₃' E' lt' ns' mx' F' N' i' tk'
      k_steps
      (unfold Stop; k_dflt (refine' bits_use ?h8_4 ?B_4 ?F_4 ?X_4 ?N_4 ?T_4 ?K_4 ?d_4 ?u_4 ?I_4 ?_; (case h8_4 => assumption); (case B_4 => k_asm); (case F_4 => k_asm); (case X_4 => k_asm); (case N_4 => k_asm); (case T_4 => k_asm); (case K_4 => first | exact rfl | assumption); (case d_4 => first | (dsimp only [ktrTop]; omega) | ktr_room); (case u_4 => first | (dsimp only [ktrTop]; omega) | ktr_units); (case I_4 => with_reducible assumption)); intro D' t1' t2' t3' n' h' tk' F' N' l' i'; (try k_lt l'))
      k_steps
      (unfold Stop; k_dflt (refine' phase_use ?B_5 ?F_5 ?X_5 ?N_5 ?T_5 ?K_5 ?d_5 ?u_5 ?I_5 ?hb_5 ?hx_5 ?hy_5 ?hz_5 ?hl_5 ?hi_5 ?ok_5 ?_; (case B_5 => k_asm); (case F_5 => k_asm); (case X_5 => k_asm); (case N_5 => k_asm); (case T_5 => k_asm); (case K_5 => first | exact rfl | assumption); (case d_5 => first | (dsimp only [ktrTop]; omega) | ktr_room); (case u_5 => first | (dsimp only [ktrTop]; omega) | ktr_units); (case I_5 => with_reducible assumption); (case hb_5 => k_mem); (case hl_5 => k_mem); (case hx_5 => omega); (case hy_5 => omega); (case hz_5 => omega); (case hi_5 => assumption); (case ok_5 => assumption)); intro t1' h' tk' F' N' i')
      k_steps
      (unfold Stop; k_dflt (refine' told_use ?B_6 ?F_6 ?X_6 ?N_6 ?T_6 ?K_6 ?d_6 ?u_6 ?I_6 ?hl_6 ?hi_6 ?hn_6 ?h0_6 ?h1_6 ?_; (case B_6 => k_asm); (case F_6 => k_asm); (case X_6 => k_asm); (case N_6 => k_asm); (case T_6 => k_asm); (case K_6 => first | exact rfl | assumption); (case d_6 => first | (dsimp only [ktrTop]; omega) | ktr_room); (case u_6 => first | (dsimp only [ktrTop]; omega) | ktr_units); (case I_6 => with_reducible assumption); (case hl_6 => k_mem); (case hi_6 => assumption); (case hn_6 => exact DrawnOk.len (by assumption)); (case h0_6 => exact (PR_range _ _ _ (by assumption)).1); (case h1_6 => exact (PR_range _ _ _ (by assumption)).2)); intro t1' h' tk' F' N' i')
      k_steps
    case' done_3 => (intro D' h' tk' ys' n' ne' F' N' len' all'; have row' := told_row len' all'; clear all')
    k_steps
    (unfold Stop; (rename DrawnOk _ => ok'); (rename _ = Data.cell (some (Value.bool _)) => hb'); (k_dflt (refine' plain_comp ok' hb' ?k81_7 ?k82_7 ?k83_7 ?k84_7 ?k85_7 ?_ ?k86_7; (case k81_7 => with_unfolding_all rfl); (case k82_7 => decide); (case k83_7 => rfl); (case k84_7 => decide); (case k85_7 => rfl); (case k86_7 => intro _; rfl))))
    k_steps
    (unfold Stop; k_dflt (refine' comp_range _ ?hh_8 ?hr_8 ?hsmall_8 ?hn_8 ?hz_8 ?F_8 ?N_8 ?helt_8 ?done_8; (case hh_8 => rfl); (case hr_8 => assumption); (case hsmall_8 => decide); (case hn_8 => rfl); (case hz_8 => decide); (case F_8 => k_asm); (case N_8 => k_asm)))
    case helt_8 =>
      intro C' k' t' s₃' m₃' E' lt' ns' mx' F' N' i' tk'
      k_steps
      (unfold Stop; k_dflt (refine' phase_useK ?B_9 ?F_9 ?X_9 ?N_9 ?T_9 ?K_9 ?d_9 ?u_9 ?I_9 ?hb_9 ?h8_9 ?hl_9 ?hi_9 ?ok_9 ?_; (case B_9 => k_asm); (case F_9 => k_asm); (case X_9 => k_asm); (case N_9 => k_asm); (case T_9 => k_asm); (case K_9 => first | exact rfl | assumption); (case d_9 => first | (dsimp only [ktrTop]; omega) | ktr_room); (case u_9 => first | (dsimp only [ktrTop]; omega) | ktr_units); (case I_9 => with_reducible assumption); (case hb_9 => k_mem); (case hl_9 => k_mem); (case h8_9 => assumption); (case hi_9 => assumption); (case ok_9 => assumption)); intro t1' h' tk' F' N' i')
      k_steps
    case' done_8 => (intro D' h' tk' ys' n' ne' F' N' len' all'; have row' := plain_row len' all'; clear all')
    k_steps
    (unfold Stop; (rename DrawnOk _ => ok'); (rename _ = Data.cell (some (Value.bool _)) => hb'); (k_dflt (refine' told_comp ok' hb' ?k81_10 ?k82_10 ?k83_10 ?k84_10 ?k85_10 ?_ ?k86_10; (case k81_10 => with_unfolding_all rfl); (case k82_10 => decide); (case k83_10 => rfl); (case k84_10 => decide); (case k85_10 => rfl); (case k86_10 => intro _; rfl))))
    k_steps
    (unfold Stop; k_dflt (refine' comp_range _ ?hh_11 ?hr_11 ?hsmall_11 ?hn_11 ?hz_11 ?F_11 ?N_11 ?helt_11 ?done_11; (case hh_11 => rfl); (case hr_11 => assumption); (case hsmall_11 => decide); (case hn_11 => rfl); (case hz_11 => decide); (case F_11 => k_asm); (case N_11 => k_asm)))
    case helt_11 =>
      intro C' k' t' s₃' m₃' E' lt' ns' mx' F' N' i' tk'
      k_steps
      (unfold Stop; k_dflt (refine' bits_use ?h8_12 ?B_12 ?F_12 ?X_12 ?N_12 ?T_12 ?K_12 ?d_12 ?u_12 ?I_12 ?_; (case h8_12 => assumption); (case B_12 => k_asm); (case F_12 => k_asm); (case X_12 => k_asm); (case N_12 => k_asm); (case T_12 => k_asm); (case K_12 => first | exact rfl | assumption); (case d_12 => first | (dsimp only [ktrTop]; omega) | ktr_room); (case u_12 => first | (dsimp only [ktrTop]; omega) | ktr_units); (case I_12 => with_reducible assumption)); intro D' t1' t2' t3' n' h' tk' F' N' l' i'; (try k_lt l'))
      k_steps
      (unfold Stop; k_dflt (refine' phase_use ?B_13 ?F_13 ?X_13 ?N_13 ?T_13 ?K_13 ?d_13 ?u_13 ?I_13 ?hb_13 ?hx_13 ?hy_13 ?hz_13 ?hl_13 ?hi_13 ?ok_13 ?_; (case B_13 => k_asm); (case F_13 => k_asm); (case X_13 => k_asm); (case N_13 => k_asm); (case T_13 => k_asm); (case K_13 => first | exact rfl | assumption); (case d_13 => first | (dsimp only [ktrTop]; omega) | ktr_room); (case u_13 => first | (dsimp only [ktrTop]; omega) | ktr_units); (case I_13 => with_reducible assumption); (case hb_13 => k_mem); (case hl_13 => k_mem); (case hx_13 => omega); (case hy_13 => omega); (case hz_13 => omega); (case hi_13 => assumption); (case ok_13 => assumption)); intro t1' h' tk' F' N' i')
      k_steps
      (unfold Stop; k_dflt (refine' told_use ?B_14 ?F_14 ?X_14 ?N_14 ?T_14 ?K_14 ?d_14 ?u_14 ?I_14 ?hl_14 ?hi_14 ?hn_14 ?h0_14 ?h1_14 ?_; (case B_14 => k_asm); (case F_14 => k_asm); (case X_14 => k_asm); (case N_14 => k_asm); (case T_14 => k_asm); (case K_14 => first | exact rfl | assumption); (case d_14 => first | (dsimp only [ktrTop]; omega) | ktr_room); (case u_14 => first | (dsimp only [ktrTop]; omega) | ktr_units); (case I_14 => with_reducible assumption); (case hl_14 => k_mem); (case hi_14 => assumption); (case hn_14 => exact DrawnOk.len (by assumption)); (case h0_14 => exact (PR_range _ _ _ (by assumption)).1); (case h1_14 => exact (PR_range _ _ _ (by assumption)).2)); intro t1' h' tk' F' N' i')
      k_steps
    case' done_11 => (intro D' h' tk' ys' n' ne' F' N' len' all'; have row' := told_row len' all'; clear all')
    k_steps
    (unfold Stop; (rename DrawnOk _ => ok'); (rename _ = Data.cell (some (Value.bool _)) => hb'); (k_dflt (refine' plain_comp ok' hb' ?k81_15 ?k82_15 ?k83_15 ?k84_15 ?k85_15 ?_ ?k86_15; (case k81_15 => with_unfolding_all rfl); (case k82_15 => decide); (case k83_15 => rfl); (case k84_15 => decide); (case k85_15 => rfl); (case k86_15 => intro _; rfl))))
    k_steps
    (unfold Stop; k_dflt (refine' comp_range _ ?hh_16 ?hr_16 ?hsmall_16 ?hn_16 ?hz_16 ?F_16 ?N_16 ?helt_16 ?done_16; (case hh_16 => rfl); (case hr_16 => assumption); (case hsmall_16 => decide); (case hn_16 => rfl); (case hz_16 => decide); (case F_16 => k_asm); (case N_16 => k_asm)))
    case helt_16 =>
      intro C' k' t' s₃' m₃' E' lt' ns' mx' F' N' i' tk'
      k_steps
      (unfold Stop; k_dflt (refine' phase_useK ?B_17 ?F_17 ?X_17 ?N_17 ?T_17 ?K_17 ?d_17 ?u_17 ?I_17 ?hb_17 ?h8_17 ?hl_17 ?hi_17 ?ok_17 ?_; (case B_17 => k_asm); (case F_17 => k_asm); (case X_17 => k_asm); (case N_17 => k_asm); (case T_17 => k_asm); (case K_17 => first | exact rfl | assumption); (case d_17 => first | (dsimp only [ktrTop]; omega) | ktr_room); (case u_17 => first | (dsimp only [ktrTop]; omega) | ktr_units); (case I_17 => with_reducible assumption); (case hb_17 => k_mem); (case hl_17 => k_mem); (case h8_17 => assumption); (case hi_17 => assumption); (case ok_17 => assumption)); intro t1' h' tk' F' N' i')
      k_steps
    case' done_16 => (intro D' h' tk' ys' n' ne' F' N' len' all'; have row' := plain_row len' all'; clear all')
    k_steps
    (unfold Stop; (rename Fr _ _ _ _ => lF'); (k_dflt (refine' For_rangeT lF' ?k81_18 ?k82_18 ?_ ?k83_18 ?k84_18; (case k81_18 => rfl); (case k82_18 => rfl); (case k83_18 => intro _; rfl); (case k84_18 => passes_own))))
    k_steps
    (refine fun hle' => ?_)
    rename DrawnOk _ => ok'
    rename IsRange _ _ _ _ _ _ _ _ => rg'
    rename Fr _ _ _ _ => F1
    rename News _ _ _ _ => N1
    refine' law_shift _ ok' rg' rfl rfl F1 N1 ?hb ?turn ?done
    case hb => rfl
    case done =>
      intro b u h tk hbal F' N'
      dsimp only [kstB] at F'
      clear F1 N1
      k_steps
      k_steps
      · rename BalP _ _ _ => hb
        rename _ = (2 : Int) => hs
        refine good_true (law_end1 hb rfl rfl rfl hs) ?_
        k_steps
      · rename BalP _ _ _ => hb
        rename ¬ _ = (2 : Int) => hs
        refine good_true (law_end2 hb rfl rfl rfl hs) ?_
        k_steps
    case turn =>
      intro i b t u h tk I it hI hi hbal F' N'
      k_lt hI
      (repeat (rename (@LT.lt Nat _ _ _) ∧ _ => hc'; have hc1' := hc'.1; have hc2' := hc'.2; clear hc'))
      have hpick := fun (j : Nat) (hj : j < 2) => pick_row j hj N' (by assumption) (by assumption) (by assumption) (by assumption) (by k_mem) (by k_mem) (by k_mem) (by k_mem)
      dsimp only [kstB] at F'
      clear F1 N1
      k_steps
      (repeat (rename (@LT.lt Nat _ _ _) ∧ _ => hc'; have hc1' := hc'.1; have hc2' := hc'.2; clear hc'))
      (unfold Stop; (rename Fr _ _ _ _ => lF'); (k_dflt (refine' For_rangeT lF' ?k81_27 ?k82_27 ?_ ?k83_27 ?k84_27; (case k81_27 => rfl); (case k82_27 => rfl); (case k83_27 => intro _; rfl); (case k84_27 => passes_own))))
      k_steps
      refine fun hle' => ?_
      clear rg'
      rename IsRange _ _ _ _ _ _ _ _ => rg'
      rename Fr _ _ _ _ => F1
      rename News _ _ _ _ => N1
      refine' law_which _ ok' i rg' rfl rfl F1 N1 ?turn ?done
      case done =>
        intro c u3 h3 tk3 hrow F' N'
        dsimp only [kstB] at F'
        clear F1 N1
        k_steps
        rename RowOk _ _ _ => hrow
        rename BalP _ _ _ => hbal
        unfold Stop
        refine toks_ok hrow (Nat.le_refl _) ?_
        k_dflt (refine' row_comp GMul ?k81 ?k82 ?k83 ?k84 ?k85 ?_ ?k86; (case k81 => with_unfolding_all rfl); (case k82 => decide); (case k83 => rfl); (case k84 => decide); (case k85 => rfl); (case k86 => intro _; rfl))
        k_steps
        unfold Stop
        k_dflt (refine' comp_row GMul ?hh ?hz ?F ?N ?hm ?helt ?doneY; (case hh => rfl); (case F => k_asm); (case N => k_asm))
        case hm => k_mem
        case hz => exact Nat.le_trans (RowOk.vsz hrow) (by decide)
        case helt =>
          intro C' v' s₃' m₃' E' hv' ns' mx' F' N' i' tk'
          obtain ⟨b, t, rfl, z, q⟩ := hrow.tok v' hv'
          k_steps
        case doneY =>
          intro D' h' tk' ys' n' ne' F' N' p'
          k_steps
          rename _ ≤ Shared.toks _ => u1
          dsimp only at u1
          unfold Stop
          k_dflt (refine' kso_sorted ?F ?N ?l (RowOk.us hrow) ?sz ?_; (case F => k_asm); (case N => k_asm); (case l => exact News.isList (by k_asm) (by k_mem)); (case sz => exact Nat.lt_of_le_of_lt (dlw_length _ _ 2 0) (by decide)))
          intro D2 us2 ms2 n2 h2 F' N' lt2 hi2 len2 pm2 so2 _
          k_lt lt2
          k_steps
          unfold Stop
          k_dflt (refine' ne_mul8 hrow ?N ?m1 p' ?m2 hi2 pm2 so2 ?u ?_; (case N => k_asm); (case m1 => k_mem); (case m2 => k_mem); (case u => ktr_units))
          k_steps
          (unfold Stop; k_dflt (refine' bisect_law ?B_34 ?F_34 ?X_34 ?N_34 ?T_34 ?K_34 ?d_34 ?u_34 hrow ?hm_34 ?_; (case B_34 => k_asm); (case F_34 => k_asm); (case X_34 => k_asm); (case N_34 => k_asm); (case T_34 => k_asm); (case K_34 => first | exact rfl | assumption); (case d_34 => first | (dsimp only [ktrTop]; omega) | ktr_room); (case u_34 => first | (dsimp only [ktrTop]; omega) | ktr_units); (case hm_34 => k_mem)))
          intro r t4 h4 tk4 hle4 F' N' hr c1 c2
          dsimp only at hle4
          have hvs := RowOk.vsz hrow
          have hsl : r ≤ List.length _ := Nat.le_trans hr (RowOk.kvs hrow)
          have hsz' := Nat.le_trans hvs (show 100 ≤ sizeLine by decide)
          k_steps
          unfold Stop
          k_dflt (refine' half_comp hrow ?k91 ?k92 ?k93 ?k94 ?k95 ?_ ?k96; (case k91 => with_unfolding_all rfl); (case k92 => decide); (case k93 => rfl); (case k94 => decide); (case k95 => rfl); (case k96 => intro _; rfl))
          k_steps
          unfold Stop
          k_dflt (refine' comp_row (GHalf _) ?hh9 ?hz9 ?F9 ?N9 ?hm9 ?helt9 ?done9; (case hh9 => rfl); (case F9 => k_asm); (case N9 => k_asm))
          case hm9 => k_mem
          case hz9 => exact Nat.le_trans (by rw [List.length_take]; exact Nat.min_le_right _ _) hsz'
          case helt9 =>
            intro C' v' s₃' m₃' E' hv' ns' mx' F' N' i' tk'
            obtain ⟨b, t, rfl, z, q⟩ := hrow.tok v' (List.mem_of_mem_take hv')
            k_steps
            dsimp only at tk'
            have q' : @LT.lt Nat _ _ _ := q
            rename InElt _ _ => j1'
            exact EltEndV.mk (GHalf.mk (by show @LE.le Nat _ _ _; omega) (by show @LT.lt Nat _ _ _; omega)) j1'
          case done9 =>
            intro D' h' tk' ys' n' ne' F' N' p9
            k_steps
            unfold Stop
            k_dflt (refine' ne_half hrow (Nat.le_refl _) ?N7 ?m7 p9 ?n7 hr c1 ?b7 ?u7 ?_; (case N7 => k_asm); (case m7 => k_mem); (case n7 => k_mem); (case u7 => ktr_units))
            case b7 => exact noneBooked_of (by assumption) (by assumption) (by assumption) (by k_is)
            k_steps
            · rename List.map _ _ = _ => hX
              k_dflt (refine' EndT.mk _ ?F5 ?N5 ?hp5 ?hm5 (BalP.keep hbal ((half_bal hrow.so hrow.pm (DD_range _ _) c1 c2).mp hX)))
              case F5 => assumption
              case N5 => ((rename News _ _ _ _ => N'); intro p hp; refine N' p ?_; repeat (first | with_reducible exact hp | refine List.mem_cons_of_mem _ ?_))
              case hp5 => intro p hp; rw [List.mem_singleton.mp hp]; rfl
              case hm5 =>
                intro z h1 h2 h3
                have h4 : z ≠ "balanced" := h2 _ (.head _)
                refine (if_neg (law_off h3 rfl)).trans ((if_neg (law_off h3 rfl)).trans ((if_neg (law_offk h3)).trans ((if_neg (law_off h3 rfl)).trans ((if_neg (law_off h3 rfl)).trans ((if_neg h1).trans ((if_neg h4).trans (if_neg (law_offs h3))))))))
            · rename ¬ (List.map _ _ = _) => hX
              k_dflt (refine' EndT.mk _ ?F6 ?N6 ?hp6 ?hm6 (BalP.drop (mt (half_bal hrow.so hrow.pm (DD_range _ _) c1 c2).mpr hX)))
              case F6 => assumption
              case N6 => ((rename News _ _ _ _ => N'); intro p hp; refine N' p ?_; repeat (first | with_reducible exact hp | refine List.mem_cons_of_mem _ ?_))
              case hp6 => intro p hp; rw [List.mem_singleton.mp hp]; rfl
              case hm6 =>
                intro z h1 h2 h3
                have h4 : z ≠ "balanced" := h2 _ (.head _)
                refine (if_neg h4).trans ((if_neg (law_off h3 rfl)).trans ((if_neg (law_off h3 rfl)).trans ((if_neg (law_offk h3)).trans ((if_neg (law_off h3 rfl)).trans ((if_neg (law_off h3 rfl)).trans ((if_neg h1).trans ((if_neg h4).trans (if_neg (law_offs h3)))))))))
      case turn =>
        intro c j t u h tk I2 it2 hI2 hj hrow F' N'
        k_lt hI2
        (repeat (rename (@LT.lt Nat _ _ _) ∧ _ => hc'; have hc1' := hc'.1; have hc2' := hc'.2; clear hc'))
        dsimp only [kstB] at F'
        clear F1 N1
        obtain ⟨bb, Tb, Pb, yT, yP, nT, nP, hjb, eT, eP, mT, mP, fT, fP⟩ := hpick j hj
        k_steps
        (unfold Stop; (rename Fr _ _ _ _ => lF'); (k_dflt (refine' For_rangeT lF' ?k81_47 ?k82_47 ?_ ?k83_47 ?k84_47; (case k81_47 => rfl); (case k82_47 => rfl); (case k83_47 => intro _; rfl); (case k84_47 => passes_own))))
        k_steps
        refine fun hle' => ?_
        clear rg'
        rename IsRange _ _ _ _ _ _ _ _ => rg'
        rename Fr _ _ _ _ => F1
        rename News _ _ _ _ => N1
        refine' law_k _ i _ c hi (hrow.up hle') rg' rfl rfl F1 N1 ?_ ?_
        rotate_left
        next =>
          intro c3 u3 h3 tk3 hrow3 F' N'
          k_steps
          k_dflt (exact EndT.mk c3 (by assumption) (by assumption) (fun p hp => nomatch hp) (fun z hz _ hs => (if_neg (by rintro rfl; exact absurd hs (by decide))).trans ((if_neg hz).trans (if_neg (by rw [hs]; decide)))) ((dlw_next _ _ _ hj) ▸ hrow3))
        intro c3 k t3 h3 tk3 I3 it3 hI3 hk hrow3 F' N'
        k_lt hI3
        (repeat (rename (@LT.lt Nat _ _ _) ∧ _ => hc'; have hc1' := hc'.1; have hc2' := hc'.2; clear hc'))
        clear F1 N1
        k_steps
        ((rename RowOk _ _ _ => r'); unfold Stop; k_dflt (refine' insort_law ?B_56 ?F_56 ?X_56 ?N_56 ?T_56 ?K_56 ?d_56 ?u_56 r' ?h1_56 ?h2_56 ?h3_56 (e8_diff ?p0_56 ?p1_56) (diff8 _ _) ?U_56 ?_; (case B_56 => k_asm); (case F_56 => k_asm); (case X_56 => k_asm); (case N_56 => k_asm); (case T_56 => k_asm); (case K_56 => first | exact rfl | assumption); (case d_56 => first | (dsimp only [ktrTop]; omega) | ktr_room); (case u_56 => first | (dsimp only [ktrTop]; omega) | ktr_units); (case h1_56 => dsimp only; omega); (case h2_56 => exact beq_eq_false_iff_ne.mpr (Nat.succ_ne_zero _)); (case h3_56 => exact Nat.lt_succ_self _); (case p0_56 => exact (PR_range _ _ _ (by omega)).1); (case p1_56 => exact (PR_range _ _ _ (by omega)).1); (case U_56 => k_updF)))
        rename RowOk _ _ _ => hrow3
        intro vs5 n5 ks5 h5 tk5 hle5 F5 N5 row5
        (try dsimp only at N5)
        refine wpAny_with_toks (n := tk5) (Nat.le_refl _) ?_
        k_steps
        rename tk5 ≤ _ => hle6
        k_dflt (exact EndT.mk ⟨vs5, n5, c3.us ++ [_], c3.nu + 1, ks5⟩ (by assumption) (by assumption) (fun p hp => nomatch hp) (fun z hz _ _ => if_neg hz) (law_k_end (b := _) hrow3 row5 hle6 (by omega) (by omega) hjb hk)))
end Mine

theorem PySem.Challenge.cw_sr0028_01_holds : PySem.Challenge.rw_sr0028_01.Holds := by
  exact Mine.law_all
