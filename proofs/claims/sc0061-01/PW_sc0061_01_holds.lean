import PyProof.Rows.All
import Wide.All
import OpenK.AllK
import Wide.FinOn
import Lean
import PySem.Challenge.RW_sc0061_01
set_option Elab.async false
local macro_rules | `(tactic| walk_at "in") => `(tactic| (intros; (try k_sweep); (try dsimp only)))
local macro_rules | `(tactic| walk_at "ie") => `(tactic| (intros; (try dsimp only)))
section
open PySem PySem.W PyProof.Rows
namespace Mine
set_option maxRecDepth 100000 in
set_option maxHeartbeats 8000000 in
open_top hd for PySem.Challenge.rw_sc0061_01
end Mine
end
section
open PySem PySem.W PyProof.Rows PySem.Flt
namespace Mine
noncomputable abbrev looseL : List Str := looseW Mine.hd.view_39 [Str.ofString "insort_right", Str.ofString "bisect_right", Str.ofString "_twin_re_1", Str.ofString "_twin_re_2"]
def ltF (x y : UInt64) : Bool := Float64.cmp x y == some .lt
def max3 (x y z : UInt64) : UInt64 := if ltF x y then (if ltF y z then z else y) else (if ltF x z then z else x)
def min3 (x y z : UInt64) : UInt64 := if ltF y x then (if ltF z y then z else y) else (if ltF z x then z else x)
section
variable {prog : Program} {w : World} {A : Around} {E : Value → Shared → Prop} {s : Shared} {Q : Value → Shared → Prop}
theorem max_three_num {a b c : Value} (hh : A.handled = none) (ha : NumV a) (hb : NumV b) (hc : NumV c)
    (h : ∀ h' tk, (∀ d o, s.heap.get? d = some o → h'.get? d = some o) → Q (if ltV a b then (if ltV b c then c else b) else (if ltV a c then c else a)) { s with heap := h', toks := tk }) :
    wpAny (model prog w) A (call (.builtin "max") [a, b, c]) Q E s := by
  have hT : (s.heap.push { cls := .type "tuple", data := .seq #[a, b, c] }).IsTuple s.heap.objs.size #[a, b, c] := ⟨_, Heap.get?_push_size _ rfl, rfl, 0, rfl⟩
  refine call_max_three (wpAny_pyIter_tuple hT ?_)
  have hsz : (s.heap.push { cls := .type "tuple", data := .seq #[a, b, c] }).objs.size = s.heap.objs.size + 1 := Heap.size_push ..
  refine ⟨_, [_, s.heap.objs.size], [_], _, _, _, _, rfl, Walks.tuple (A := A.in1) hh _ s.heap.objs.size (by rw [hsz]; exact Nat.ne_of_lt (Nat.lt_succ_self _)) #[a, b, c],
    ⟨⟨_, Heap.get?_push_size _ rfl, rfl, rfl⟩, hT.push _⟩, fun c hc => ?_, by simp, cmpOf_gt #[a, b, c] (by simp [ha, hb, hc]), fun v h' tk hP hk => ?_⟩
  · show c < ((s.heap.push _).push _).objs.size
    rw [Heap.size_push, hsz]
    rcases List.mem_cons.mp hc with rfl | hc
    · rw [hsz]; exact Nat.lt_succ_self _
    · rcases List.mem_cons.mp hc with rfl | hc
      · exact Nat.lt_succ_of_lt (Nat.lt_succ_self _)
      · cases hc
  · have hold : ∀ c o, s.heap.get? c = some o → h'.get? c = some o := fun c o e => by
      refine hk c o (fun hm => ?_) (Heap.get?_push_of_some _ (Heap.get?_push_of_some _ e))
      rcases List.mem_cons.mp hm with e1 | hm
      · have := Heap.lt_size e; rw [e1, hsz] at this; exact Nat.lt_irrefl _ (Nat.lt_of_succ_lt this)
      · cases hm
    have := h h' tk hold
    have hv : v = if ltV a b then (if ltV b c then c else b) else (if ltV a c then c else a) := by
      cases h1 : ltV a b <;> cases h2 : ltV b c <;> cases h3 : ltV a c <;> simp [argBest, h1, h2, h3] at hP <;> simp [hP]
    rw [hv]; exact this
theorem min_three_num {a b c : Value} (hh : A.handled = none) (ha : NumV a) (hb : NumV b) (hc : NumV c)
    (h : ∀ h' tk, (∀ d o, s.heap.get? d = some o → h'.get? d = some o) → Q (if ltV b a then (if ltV c b then c else b) else (if ltV c a then c else a)) { s with heap := h', toks := tk }) :
    wpAny (model prog w) A (call (.builtin "min") [a, b, c]) Q E s := by
  have hT : (s.heap.push { cls := .type "tuple", data := .seq #[a, b, c] }).IsTuple s.heap.objs.size #[a, b, c] := ⟨_, Heap.get?_push_size _ rfl, rfl, 0, rfl⟩
  refine call_min_three (wpAny_pyIter_tuple hT ?_)
  have hsz : (s.heap.push { cls := .type "tuple", data := .seq #[a, b, c] }).objs.size = s.heap.objs.size + 1 := Heap.size_push ..
  refine ⟨_, [_, s.heap.objs.size], [_], _, _, _, _, rfl, Walks.tuple (A := A.in1) hh _ s.heap.objs.size (by rw [hsz]; exact Nat.ne_of_lt (Nat.lt_succ_self _)) #[a, b, c],
    ⟨⟨_, Heap.get?_push_size _ rfl, rfl, rfl⟩, hT.push _⟩, fun c hc => ?_, by simp, cmpOf_lt #[a, b, c] (by simp [ha, hb, hc]), fun v h' tk hP hk => ?_⟩
  · show c < ((s.heap.push _).push _).objs.size
    rw [Heap.size_push, hsz]
    rcases List.mem_cons.mp hc with rfl | hc
    · rw [hsz]; exact Nat.lt_succ_self _
    · rcases List.mem_cons.mp hc with rfl | hc
      · exact Nat.lt_succ_of_lt (Nat.lt_succ_self _)
      · cases hc
  · have hold : ∀ c o, s.heap.get? c = some o → h'.get? c = some o := fun c o e => by
      refine hk c o (fun hm => ?_) (Heap.get?_push_of_some _ (Heap.get?_push_of_some _ e))
      rcases List.mem_cons.mp hm with e1 | hm
      · have := Heap.lt_size e; rw [e1, hsz] at this; exact Nat.lt_irrefl _ (Nat.lt_of_succ_lt this)
      · cases hm
    have := h h' tk hold
    have hv : v = if ltV b a then (if ltV c b then c else b) else (if ltV c a then c else a) := by
      cases h1 : ltV b a <;> cases h2 : ltV c b <;> cases h3 : ltV c a <;> simp [argBest, h1, h2, h3] at hP <;> simp [hP]
    rw [hv]; exact this
theorem ite_float {c : Bool} {x y : UInt64} {t u : Tok} : (if c = true then Value.float x t else Value.float y u) = Value.float (if c = true then x else y) (if c = true then t else u) := by cases c <;> rfl
theorem max_three_ff {x y z : UInt64} {t u v : Tok} {h₀ : Heap} {L : Addr} {m : Str → Option Value} {news : List (Addr × Obj)} (hh : A.handled = none) (F : Fr h₀ L s.heap m) (N : News h₀ L s.heap news)
    (h : ∀ h' tk v, Fr h₀ L h' m → News h₀ L h' news → Q (.float (max3 x y z) v) { s with heap := h', toks := tk }) :
    wpAny (model prog w) A (call (.builtin "max") [.float x t, .float y u, .float z v]) Q E s :=
  max_three_num hh (.float x t) (.float y u) (.float z v) fun h' tk kp => by
    have := fun v => h h' tk v (F.grownK kp) (N.grown kp)
    show Q (if ltF x y = true then (if ltF y z = true then Value.float z v else Value.float y u) else (if ltF x z = true then Value.float z v else Value.float x t)) _
    simp only [ite_float]; exact this _
theorem ite_nz {c : Bool} {a b : Tok} (ha : a ≠ 0) (hb : b ≠ 0) : (if c = true then a else b) ≠ 0 := by cases c <;> assumption
theorem max_three_nz {x y z : UInt64} {t u v : Tok} {h₀ : Heap} {L : Addr} {m : Str → Option Value} {news : List (Addr × Obj)} (hh : A.handled = none) (F : Fr h₀ L s.heap m) (N : News h₀ L s.heap news) (n1 : t ≠ 0) (n2 : u ≠ 0) (n3 : v ≠ 0)
    (h : ∀ h' tk v, v ≠ 0 → Fr h₀ L h' m → News h₀ L h' news → Q (.float (max3 x y z) v) { s with heap := h', toks := tk }) :
    wpAny (model prog w) A (call (.builtin "max") [.float x t, .float y u, .float z v]) Q E s :=
  max_three_num hh (.float x t) (.float y u) (.float z v) fun h' tk kp => by
    have := fun v a => h h' tk v a (F.grownK kp) (N.grown kp)
    show Q (if ltF x y = true then (if ltF y z = true then Value.float z v else Value.float y u) else (if ltF x z = true then Value.float z v else Value.float x t)) _
    simp only [ite_float]; exact this _ (ite_nz (ite_nz n3 n2) (ite_nz n3 n1))
theorem min_three_ff {x y z : UInt64} {t u v : Tok} {h₀ : Heap} {L : Addr} {m : Str → Option Value} {news : List (Addr × Obj)} (hh : A.handled = none) (F : Fr h₀ L s.heap m) (N : News h₀ L s.heap news)
    (h : ∀ h' tk v, Fr h₀ L h' m → News h₀ L h' news → Q (.float (min3 x y z) v) { s with heap := h', toks := tk }) :
    wpAny (model prog w) A (call (.builtin "min") [.float x t, .float y u, .float z v]) Q E s :=
  min_three_num hh (.float x t) (.float y u) (.float z v) fun h' tk kp => by
    have := fun v => h h' tk v (F.grownK kp) (N.grown kp)
    show Q (if ltF y x = true then (if ltF z y = true then Value.float z v else Value.float y u) else (if ltF z x = true then Value.float z v else Value.float x t)) _
    simp only [ite_float]; exact this _
end
end Mine
namespace Mine
/-! pure images of the colour functions -/
abbrev tupO (vs : List Value) : Obj := { cls := .type "tuple", data := .seq vs.toArray }
abbrev lP (r g b : UInt64) : UInt64 := Float64.div (Float64.add (max3 r g b) (min3 r g b)) 4611686018427387904
def iP (h : UInt64) : Int := toInt Float64.truncOf (Float64.mul h 4618441417868443648)
def fP (h : UInt64) : UInt64 := Float64.sub (Float64.mul h 4618441417868443648) (Float64.ofInt (iP h))
def pP (s v : UInt64) : UInt64 := Float64.mul v (Float64.sub 4607182418800017408 s)
def qP (h s v : UInt64) : UInt64 := Float64.mul v (Float64.sub 4607182418800017408 (Float64.mul s (fP h)))
def tP (h s v : UInt64) : UInt64 := Float64.mul v (Float64.sub 4607182418800017408 (Float64.mul s (Float64.sub 4607182418800017408 (fP h))))
def rgbP (h s v : UInt64) : UInt64 × UInt64 × UInt64 :=
  if (iP h).fmod 6 = 0 then (v, tP h s v, pP s v) else if (iP h).fmod 6 = 1 then (qP h s v, v, pP s v) else if (iP h).fmod 6 = 2 then (pP s v, v, tP h s v)
  else if (iP h).fmod 6 = 3 then (pP s v, qP h s v, v) else if (iP h).fmod 6 = 4 then (tP h s v, pP s v, v) else (v, pP s v, qP h s v)
def rangeP (r g b : UInt64) : UInt64 := Float64.sub (max3 r g b) (min3 r g b)
def cP (r g b x : UInt64) : UInt64 := Float64.div (Float64.sub (max3 r g b) x) (rangeP r g b)
def eqF (x y : UInt64) : Bool := Float64.cmp x y == some .eq
def hP (r g b : UInt64) : UInt64 :=
  if eqF r (max3 r g b) = true then Float64.sub (cP r g b b) (cP r g b g)
  else if eqF g (max3 r g b) = true then Float64.sub (Float64.add 4611686018427387904 (cP r g b r)) (cP r g b b)
  else Float64.sub (Float64.add 4616189618054758400 (cP r g b g)) (cP r g b r)
def hueP (r g b : UInt64) : UInt64 := (Float64.divmod (Float64.div (hP r g b) 4618441417868443648) 4607182418800017408).snd
def shareP (r g b : UInt64) : UInt64 := Float64.div (rangeP r g b) (max3 r g b)
end Mine
end
section
open PySem PySem.W PyProof.Rows PySem.Flt
namespace Mine
local macro_rules | `(tactic| walk_at "call builtin:max") => `(tactic| (k_here; (with_reducible show wpAny _ _ (call _ [Value.float _ _, Value.float _ _, Value.float _ _]) _ _ _); k_dflt (refine' max_three_ff rfl (by k_asm) (by k_asm) ?_); intro h' tk' v' F' N'))
local macro_rules | `(tactic| walk_at "call builtin:min") => `(tactic| (k_here; (with_reducible show wpAny _ _ (call _ [Value.float _ _, Value.float _ _, Value.float _ _]) _ _ _); k_dflt (refine' min_three_ff rfl (by k_asm) (by k_asm) ?_); intro h' tk' v' F' N'))
section
variable {w : World} {mean : ExcName → Option Value} {mg mb : Str → Option Value} {dp un : Nat} {gd : Option (List Code)} {cn : Str} {cs : Scope} {a : Addr} {ccd : Value} {cl : List (Str × Addr)} {outer : List Env} {A₀ : Around} {base h₀ : Heap} {L : Addr} {m : Str → Option Value} {news : List (Addr × Obj)} {s : Shared} {Q E : Value → Shared → Prop}
set_option maxRecDepth 100000
set_option maxHeartbeats 8000000
theorem c_hls {r g b : UInt64} {tr tg tb : Tok} (B : Below A₀ base outer h₀) (F : Fr h₀ L s.heap m) (X : (Mine.hd.heap_39 w.params).In h₀) (N : News h₀ L s.heap news) (T : Top Mine.hd.view_39 looseL mean mg mb h₀) (hk : cs.kind = .function) (hd : dp + 3 < recursionLimit)
    (z1 : ¬ Float64.isZero (Float64.add (max3 r g b) (min3 r g b)) = true) (z2 : ¬ Float64.isZero (Float64.sub (max3 r g b) (min3 r g b)) = true) (z3 : ¬ Float64.isZero (Float64.sub (Float64.sub 4611686018427387904 (max3 r g b)) (min3 r g b)) = true)
    (hret : ∀ D h' tk x z t1 t2 t3, Fr h₀ L h' m → News h₀ L h' ((D, tupO [.float x t1, .float (lP r g b) t2, .float z t3]) :: news) → (∀ p ∈ news, p.1 < D) → Q (.ref D) { s with heap := h', toks := tk }) :
    wpAny (model Challenge.rw_sc0061_01.row.prog w) (ktrTop dp un gd cn cs L a ccd cl outer) (call (.ref 38) [.float r tr, .float g tg, .float b tb]) Q E s := by
  revert X
  k_fill
  intro X
  refine wpAny_call ?_
  k_dflt ktr_enter
  k_steps
  all_goals first
    | exact hret _ _ _ _ _ _ _ _ (by assumption) (by assumption) (by assumption)
    | (exfalso; first | exact z1 (by assumption) | exact z2 (by assumption) | exact z3 (by assumption))
    | skip
  all_goals trace_state
end
end Mine
end
section
open PySem PySem.W PyProof.Rows PySem.Flt
namespace Mine
local macro_rules | `(tactic| walk_at "call builtin:max") => `(tactic| (k_here; (with_reducible show wpAny _ _ (call _ [Value.float _ _, Value.float _ _, Value.float _ _]) _ _ _); k_dflt (refine' max_three_nz rfl (by k_asm) (by k_asm) (by with_reducible assumption) (by with_reducible assumption) (by with_reducible assumption) ?_); intro h' tk' v' nz' F' N'))
local macro_rules | `(tactic| walk_at "storeName") => `(tactic| (k_here; k_dflt (refine' storeX_L (by k_asm) (by k_asm) ?_ (by rfl) (by rfl)); walk_at "in"))
local macro_rules | `(tactic| walk_at "execs cons") => `(tactic| ((with_reducible refine wpAny_execs_cons ?_); (try dsimp only)))
local macro_rules | `(tactic| walk_at "execs nil") => `(tactic| ((with_reducible refine wpAny_execs_nil ?_); (try dsimp only)))
local macro_rules | `(tactic| walk_at "nz") => `(tactic| first | (with_reducible assumption) | exact Nat.succ_ne_zero _)
local macro_rules | `(tactic| walk_at "call builtin:min") => `(tactic| (k_here; (with_reducible show wpAny _ _ (call _ [Value.float _ _, Value.float _ _, Value.float _ _]) _ _ _); k_dflt (refine' min_three_ff rfl (by k_asm) (by k_asm) ?_); intro h' tk' v' F' N'))
section
variable {w : World} {mean : ExcName → Option Value} {mg mb : Str → Option Value} {dp un : Nat} {gd : Option (List Code)} {cn : Str} {cs : Scope} {a : Addr} {ccd : Value} {cl : List (Str × Addr)} {outer : List Env} {A₀ : Around} {base h₀ : Heap} {L : Addr} {m : Str → Option Value} {news : List (Addr × Obj)} {s : Shared} {Q E : Value → Shared → Prop}
set_option maxRecDepth 100000
set_option maxHeartbeats 8000000
theorem ne_of_f {b : Bool} (h : b = false) : ¬ b = true := by rw [h]; decide
theorem c_hsv {r g b : UInt64} {tr tg tb : Tok} (B : Below A₀ base outer h₀) (F : Fr h₀ L s.heap m) (X : (Mine.hd.heap_39 w.params).In h₀) (N : News h₀ L s.heap news) (T : Top Mine.hd.view_39 looseL mean mg mb h₀) (hk : cs.kind = .function) (hd : dp + 3 < recursionLimit)
    (z1 : ¬ Float64.isZero (max3 r g b) = true) (z2 : ¬ Float64.isZero (Float64.sub (max3 r g b) (min3 r g b)) = true) (z3 : ¬ (Float64.cmp (min3 r g b) (max3 r g b) == some Ordering.eq) = true) (n1 : tr ≠ 0) (n2 : tg ≠ 0) (n3 : tb ≠ 0)
    (hret : ∀ D h' tk H t1 t2 t3, t1 ≠ 0 → t2 ≠ 0 → t3 ≠ 0 → hueP r g b = H → Fr h₀ L h' m → News h₀ L h' ((D, tupO [.float H t1, .float (shareP r g b) t2, .float (max3 r g b) t3]) :: news) → (∀ p ∈ news, p.1 < D) → Q (.ref D) { s with heap := h', toks := tk }) :
    wpAny (model Challenge.rw_sc0061_01.row.prog w) (ktrTop dp un gd cn cs L a ccd cl outer) (call (.ref 45) [.float r tr, .float g tg, .float b tb]) Q E s := by
  revert X
  k_fill
  intro X
  refine wpAny_call ?_
  k_dflt ktr_enter
  k_steps
  all_goals first
    | (exfalso; first | exact z1 (by assumption) | exact z2 (by assumption) | exact z3 (by assumption))
    | skip
  · refine hret _ _ _ _ _ _ _ ?n1 ?n2 ?n3 ?_ (by assumption) (by assumption) (by assumption); (case n1 => walk_at "nz"); (case n2 => walk_at "nz"); (case n3 => walk_at "nz"); unfold hueP hP; rw [if_pos (by assumption)]; rfl
  · refine hret _ _ _ _ _ _ _ ?n1 ?n2 ?n3 ?_ (by assumption) (by assumption) (by assumption); (case n1 => walk_at "nz"); (case n2 => walk_at "nz"); (case n3 => walk_at "nz"); unfold hueP hP; rw [if_neg (ne_of_f (by assumption)), if_pos (by assumption)]; rfl
  · refine hret _ _ _ _ _ _ _ ?n1 ?n2 ?n3 ?_ (by assumption) (by assumption) (by assumption); (case n1 => walk_at "nz"); (case n2 => walk_at "nz"); (case n3 => walk_at "nz"); unfold hueP hP; rw [if_neg (ne_of_f (by assumption)), if_neg (ne_of_f (by assumption))]; rfl
end
end Mine
end
section
open PySem PySem.W PyProof.Rows PySem.Flt
namespace Mine
local macro_rules | `(tactic| walk_at "call builtin:max") => `(tactic| (k_here; (with_reducible show wpAny _ _ (call _ [Value.float _ _, Value.float _ _, Value.float _ _]) _ _ _); k_dflt (refine' max_three_ff rfl (by k_asm) (by k_asm) ?_); intro h' tk' v' F' N'))
local macro_rules | `(tactic| walk_at "call builtin:min") => `(tactic| (k_here; (with_reducible show wpAny _ _ (call _ [Value.float _ _, Value.float _ _, Value.float _ _]) _ _ _); k_dflt (refine' min_three_ff rfl (by k_asm) (by k_asm) ?_); intro h' tk' v' F' N'))
local macro_rules | `(tactic| walk_at "nz") => `(tactic| first | (with_reducible assumption) | exact Nat.succ_ne_zero _)
section
variable {w : World} {mean : ExcName → Option Value} {mg mb : Str → Option Value} {dp un : Nat} {gd : Option (List Code)} {cn : Str} {cs : Scope} {a : Addr} {ccd : Value} {cl : List (Str × Addr)} {outer : List Env} {A₀ : Around} {base h₀ : Heap} {L : Addr} {m : Str → Option Value} {news : List (Addr × Obj)} {s : Shared} {Q E : Value → Shared → Prop}
set_option maxRecDepth 100000
set_option maxHeartbeats 8000000
theorem c_rgb {h s' v : UInt64} {tr tg tb : Tok} (B : Below A₀ base outer h₀) (F : Fr h₀ L s.heap m) (X : (Mine.hd.heap_39 w.params).In h₀) (N : News h₀ L s.heap news) (T : Top Mine.hd.view_39 looseL mean mg mb h₀) (hk : cs.kind = .function) (hd : dp + 3 < recursionLimit)
    (z0 : ¬ (Float64.cmp s' 0 == some Ordering.eq) = true) (z1 : ¬ Float64.isNaN (Float64.mul h 4618441417868443648) = true) (z2 : ¬ Float64.isInf (Float64.mul h 4618441417868443648) = true) (z3 : (iP h).natAbs < 100) (n0 : tb ≠ 0)
    (hret : ∀ D h' tk R G B t1 t2 t3, t1 ≠ 0 → t2 ≠ 0 → t3 ≠ 0 → rgbP h s' v = (R, G, B) → Fr h₀ L h' m → News h₀ L h' ((D, tupO [.float R t1, .float G t2, .float B t3]) :: news) → (∀ p ∈ news, p.1 < D) → Q (.ref D) { s with heap := h', toks := tk }) :
    wpAny (model Challenge.rw_sc0061_01.row.prog w) (ktrTop dp un gd cn cs L a ccd cl outer) (call (.ref 52) [.float h tr, .float s' tg, .float v tb]) Q E s := by
  revert X
  k_fill
  intro X
  refine wpAny_call ?_
  k_dflt ktr_enter
  have z4 : ¬ 2 ^ 1024 - 2 ^ 970 ≤ (toInt Float64.truncOf (Float64.mul h 4618441417868443648)).natAbs := fun q => by
    have z5 : (toInt Float64.truncOf (Float64.mul h 4618441417868443648)).natAbs < 100 := z3
    have z6 : 100 < 2 ^ 1024 - 2 ^ 970 := by decide +kernel
    exact absurd (Nat.lt_of_lt_of_le z6 q) (Nat.lt_asymm z5)
  k_steps
  all_goals first
    | (exfalso; first | exact z0 (by assumption) | exact z1 (by assumption) | exact z2 (by assumption) | exact z4 (by assumption))
    | skip
  · refine hret _ _ _ _ _ _ _ _ _ ?n1 ?n2 ?n3 ?_ (by assumption) (by assumption) (by assumption); (case n1 => walk_at "nz"); (case n2 => walk_at "nz"); (case n3 => walk_at "nz"); unfold rgbP; rw [if_pos (by assumption)]; rfl
  · refine hret _ _ _ _ _ _ _ _ _ ?n1 ?n2 ?n3 ?_ (by assumption) (by assumption) (by assumption); (case n1 => walk_at "nz"); (case n2 => walk_at "nz"); (case n3 => walk_at "nz"); unfold rgbP; rw [if_neg (by assumption), if_pos (by assumption)]; rfl
  · refine hret _ _ _ _ _ _ _ _ _ ?n1 ?n2 ?n3 ?_ (by assumption) (by assumption) (by assumption); (case n1 => walk_at "nz"); (case n2 => walk_at "nz"); (case n3 => walk_at "nz"); unfold rgbP; rw [if_neg (by assumption), if_neg (by assumption), if_pos (by assumption)]; rfl
  · refine hret _ _ _ _ _ _ _ _ _ ?n1 ?n2 ?n3 ?_ (by assumption) (by assumption) (by assumption); (case n1 => walk_at "nz"); (case n2 => walk_at "nz"); (case n3 => walk_at "nz"); unfold rgbP; rw [if_neg (by assumption), if_neg (by assumption), if_neg (by assumption), if_pos (by assumption)]; rfl
  · refine hret _ _ _ _ _ _ _ _ _ ?n1 ?n2 ?n3 ?_ (by assumption) (by assumption) (by assumption); (case n1 => walk_at "nz"); (case n2 => walk_at "nz"); (case n3 => walk_at "nz"); unfold rgbP; rw [if_neg (by assumption), if_neg (by assumption), if_neg (by assumption), if_neg (by assumption), if_pos (by assumption)]; rfl
  · refine hret _ _ _ _ _ _ _ _ _ ?n1 ?n2 ?n3 ?_ (by assumption) (by assumption) (by assumption); (case n1 => walk_at "nz"); (case n2 => walk_at "nz"); (case n3 => walk_at "nz"); unfold rgbP; rw [if_neg (by assumption), if_neg (by assumption), if_neg (by assumption), if_neg (by assumption), if_neg (by assumption)]; rfl
  · exfalso
    have q1 := Int.fmod_nonneg_of_pos (toInt Float64.truncOf (Float64.mul h 4618441417868443648)) (by decide : (0 : Int) < 6)
    have q2 := Int.fmod_lt_of_pos (toInt Float64.truncOf (Float64.mul h 4618441417868443648)) (by decide : (0 : Int) < 6)
    lia
end
end Mine
end
section
open PySem PySem.W PyProof.Rows
namespace Mine
def Halt (p : Prop) : Prop := p
theorem Halt.mk {p : Prop} (h : Halt p) : p := h
theorem Halt.out {p : Prop} (h : p) : Halt p := h
def Cut (Post : Shared → Prop) (f : Flow) (s : Shared) : Prop := f = .next ∧ Post s
theorem wp_cut {M : Model} {A : Around} {E : Value → Shared → Prop} {s : Shared} {t : Sem Flow} {Q : Flow → Shared → Prop} {Post : Shared → Prop} (h : wpAny M A t (Cut Post) E s) (k : ∀ s', Post s' → Q .next s') : wpAny M A t Q E s :=
  wpAny_mono h (fun f s' c => by obtain ⟨rfl, p⟩ := c; exact k s' p) fun _ _ x => x
def FlowPost (Q : Flow → Shared → Prop) (Qn : Shared → Prop) (f : Flow) (s : Shared) : Prop :=
  match f with
  | .ret v => Q (.ret v) s
  | .brk => Q .next s
  | _ => Qn s
section
variable {prog : Program} {w : World} {A : Around} {E : Value → Shared → Prop} {Q : Flow → Shared → Prop} {s : Shared} {env : Env} {h₀ : Heap} {L : Addr}
theorem kst_self {h : Heap} {m : Str → Option Value} {ps : List (Str × Value)} (F : Fr h₀ L h m) (hk : ∀ p ∈ ps, m p.1 = some p.2) : Fr h₀ L h (kstB m ps) := by
  have e : kstB m ps = m := funext fun z => kstB_eq hk fun _ => rfl
  rw [e]; exact F
theorem News.sub {h : Heap} {news news' : List (Addr × Obj)} (N : News h₀ L h news') (hs : ∀ p ∈ news, p ∈ news') : News h₀ L h news := fun p hp => N p (hs p hp)
theorem sub_nil {α : Type _} {l : List α} : ∀ p ∈ ([] : List α), p ∈ l := fun _ h => nomatch h
theorem sub_refl {α : Type _} {l : List α} : ∀ p ∈ l, p ∈ l := fun _ h => h
theorem sub_cons {α : Type _} {a : α} {r l : List α} (h : a ∈ l) (t : ∀ p ∈ r, p ∈ l) : ∀ p ∈ a :: r, p ∈ l := fun p hp => (List.mem_cons.mp hp).elim (fun e => e ▸ h) (t p)
theorem sub_app {α : Type _} {a b l : List α} (h : ∀ p ∈ a, p ∈ l) (t : ∀ p ∈ b, p ∈ l) : ∀ p ∈ a ++ b, p ∈ l := fun p hp => (List.mem_append.mp hp).elim (h p) (t p)
theorem sub_tail {α : Type _} {x : α} {a l : List α} (h : ∀ p ∈ a, p ∈ l) : ∀ p ∈ a, p ∈ x :: l := fun p hp => .tail _ (h p hp)
theorem sub_l {α : Type _} {a l r : List α} (h : ∀ p ∈ a, p ∈ l) : ∀ p ∈ a, p ∈ l ++ r := fun p hp => List.mem_append_left _ (h p hp)
theorem sub_r {α : Type _} {a l r : List α} (h : ∀ p ∈ a, p ∈ r) : ∀ p ∈ a, p ∈ l ++ r := fun p hp => List.mem_append_right _ (h p hp)
theorem while_st {σ : Type} {test : Expr} {body : List Stmt} {pos : Pos} {m₀ : Str → Option Value} {news : List (Addr × Obj)} (ps : σ → List (Str × Value)) (Led : σ → List (Addr × Obj)) (P : σ → Prop) (μ : σ → Nat) (c₀ : σ)
    (F : Fr h₀ L s.heap m₀) (N : News h₀ L s.heap news) (hN : ∀ p ∈ Led c₀, p ∈ news) (hk : ∀ p ∈ ps c₀, m₀ p.1 = some p.2) (hp : P c₀)
    (turn : ∀ (c : σ) (u : Str → Option Value) h tk (Qn : Shared → Prop), P c → Fr h₀ L h (kstB u (ps c)) → News h₀ L h (Led c) →
      (∀ (c' : σ) (u' : Str → Option Value) h' tk' news', P c' → μ c' < μ c → Fr h₀ L h' u' → (∀ p ∈ ps c', u' p.1 = some p.2) → News h₀ L h' news' → (∀ p ∈ Led c', p ∈ news') → Qn { s with heap := h', toks := tk' }) →
      wpAny (model prog w) A (isTrue test env (eval test env)) (fun b s₂ =>
        if b = true then wpAny (model prog w) A (execs body env) (FlowPost Q Qn) E s₂ else Q .next s₂) E { s with heap := h, toks := tk })
    (hE : PassesOwn (model prog w) A env E) :
    wpAny (model prog w) A (exec (.While test body [] pos) env) Q E s := by
  refine While_inv2 (n₀ := μ c₀) (fun n m nx => ∃ c : σ, nx = Led c ∧ μ c = n ∧ (∀ p ∈ ps c, m p.1 = some p.2) ∧ P c) F (News.sub N hN) ⟨c₀, rfl, rfl, hk, hp⟩ ?_ hE
  rintro n m₁ nx h tk F₁ N₁ ⟨c, rfl, rfl, h1, hp'⟩
  refine wpAny_mono (turn c m₁ h tk (fun s₃ => ∃ h' tk m₂ news₂ n', s₃ = { s with heap := h', toks := tk } ∧ Fr h₀ L h' m₂ ∧ News h₀ L h' news₂ ∧ n' < μ c ∧ ∃ c' : σ, news₂ = Led c' ∧ μ c' = n' ∧ (∀ p ∈ ps c', m₂ p.1 = some p.2) ∧ P c') hp' (kst_self F₁ h1) N₁ ?_) (fun b s₂ p => ?_) fun _ _ x => x
  · intro c' u' h' tk' news' hP' hm F' hk' N' hs'
    exact ⟨h', tk', u', Led c', μ c', rfl, F', News.sub N' hs', hm, c', rfl, rfl, hk', hP'⟩
  cases b with
  | false => simpa using p
  | true =>
    simp only [if_true] at p ⊢
    refine wpAny_mono p (fun f s₃ q => ?_) fun _ _ x => x
    cases f <;> exact q

theorem loopV_st {σ : Type} {x : Str} {body : List Stmt} {I : Addr} {fp wr : List Addr} {n : Nat} {Pv : Nat → Value → Prop} {St : Nat → Heap → Prop} {m₀ : Str → Option Value} {news : List (Addr × Obj)}
    (ps : σ → List (Str × Value)) (Led : σ → List (Addr × Obj)) (P : Nat → σ → Prop) (c₀ : σ)
    (W : Walks prog w A I fp wr n Pv St) (hLf : env.locals ∉ fp) (hwr : ∀ b ∈ wr, h₀.get? b = none) (hst : St 0 s.heap) (F : Fr h₀ env.locals s.heap m₀) (N : News h₀ env.locals s.heap news)
    (hN : ∀ p ∈ Led c₀, p ∈ news) (hnw : ∀ p ∈ Led c₀, p.1 ∉ wr) (hk : ∀ p ∈ ps c₀, m₀ p.1 = some p.2) (hp : P 0 c₀)
    (turn : ∀ i v (c : σ) (u : Str → Option Value) h tk own (Qn : Shared → Prop), i < n → Pv i v → P i c → (∀ p ∈ Led c, p.1 ∉ wr) → (∀ p ∈ own, p.1 ∈ fp) → (∀ b ∈ fp, h₀.get? b = none → ∀ o, h.get? b = some o → (b, o) ∈ own) → St (i + 1) h →
      Fr h₀ env.locals h (fun y => if y = x then some v else kstB u (ps c) y) → News h₀ env.locals h (Led c ++ own) →
      (∀ (c' : σ) (u' : Str → Option Value) h' tk' news', P (i + 1) c' → (∀ p ∈ Led c', p.1 ∉ wr) → Fr h₀ env.locals h' u' → (∀ p ∈ ps c', u' p.1 = some p.2) → News h₀ env.locals h' news' → (∀ p ∈ Led c' ++ own, p ∈ news') → Qn { s with heap := h', toks := tk' }) →
      wpAny (model prog w) A (execs body env) (FlowPost Q Qn) E { s with heap := h, toks := tk })
    (done : ∀ (c : σ) (u : Str → Option Value) h tk, P n c → Fr h₀ env.locals h (kstB u (ps c)) → News h₀ env.locals h (Led c) → Q .next { s with heap := h, toks := tk }) :
    LoopAtV prog w A h₀ env x body Q E (.ref I) s := by
  refine ⟨I, fp, wr, n, Pv, St, m₀, Led c₀, (fun i m nx => ∃ c : σ, nx = Led c ∧ (∀ p ∈ ps c, m p.1 = some p.2) ∧ P i c), rfl, W, hLf, hwr, hnw, hst, F, News.sub N hN, ⟨c₀, rfl, hk, hp⟩, ?_, ?_⟩
  · rintro i v m₁ nx s₁ own ⟨h, tk, rfl⟩ hi hv ⟨c, rfl, h1, hpc⟩ hoff hown _ hall hst' F₁ N₁
    have e : kstB m₁ (ps c) = m₁ := funext fun z => kstB_eq h1 fun _ => rfl
    have F₂ : Fr h₀ env.locals h (fun y => if y = x then some v else kstB m₁ (ps c) y) := by rw [e]; exact F₁
    have N₂ : News h₀ env.locals h (Led c ++ own) := fun p hp => N₁ p ((List.mem_append.mp hp).elim (fun q => List.mem_append_right _ q) fun q => List.mem_append_left _ q)
    refine wpAny_mono (turn i v c m₁ h tk own (fun s₃ => LoopStepU h₀ env.locals wr own (fun m nx => ∃ c : σ, nx = Led c ∧ (∀ p ∈ ps c, m p.1 = some p.2) ∧ P (i + 1) c) { s with heap := h, toks := tk } .next s₃) hi hv hpc hoff hown hall hst' F₂ N₂ ?_) (fun f s₃ q => ?_) fun _ _ x => x
    · intro c' u' h' tk' news' hP' hoff' F' hk' N' hs'
      exact ⟨rfl, h', tk', u', Led c', rfl, F', News.sub N' fun p hp => hs' p ((List.mem_append.mp hp).elim (fun q => List.mem_append_right _ q) fun q => List.mem_append_left _ q), hoff', c', rfl, hk', hP'⟩
    · cases f with
      | ret v => exact .ret q
      | brk => exact .brk q
      | next => exact .next q
      | cont => exact .cont q
  · rintro h' tk m' nx F' N' _ ⟨c, rfl, h1, hpc⟩
    exact done c m' h' tk hpc (kst_self F' h1) N'

/-- over a list of the ledger -/
theorem iter_list_st {σ : Type} {x : Str} {body : List Stmt} {l : Addr} {vs : List Value} {nl : Nat} {m₀ : Str → Option Value} {news : List (Addr × Obj)}
    (ps : σ → List (Str × Value)) (Led : σ → List (Addr × Obj)) (P : Nat → σ → Prop) (c₀ : σ)
    (hh : A.handled = none) (F : Fr h₀ env.locals s.heap m₀) (N : News h₀ env.locals s.heap news) (hl : (l, listOf vs.toArray nl) ∈ news)
    (hN : ∀ p ∈ Led c₀, p ∈ news) (hk : ∀ p ∈ ps c₀, m₀ p.1 = some p.2) (hp : P 0 c₀)
    (turn : ∀ I i v (c : σ) (u : Str → Option Value) h tk own (Qn : Shared → Prop), (∀ p ∈ news, p.1 < I) → vs[i]? = some v → P i c → (∀ p ∈ Led c, p.1 ≠ I) → (∃ o, (I, o) ∈ own) → (∀ p ∈ own, p.1 = I ∨ p = (l, listOf vs.toArray nl)) →
      Fr h₀ env.locals h (fun y => if y = x then some v else kstB u (ps c) y) → News h₀ env.locals h (Led c ++ own) →
      (∀ (c' : σ) (u' : Str → Option Value) h' tk' news', P (i + 1) c' → (∀ p ∈ Led c', p.1 ≠ I) → Fr h₀ env.locals h' u' → (∀ p ∈ ps c', u' p.1 = some p.2) → News h₀ env.locals h' news' → (∀ p ∈ Led c' ++ own, p ∈ news') → Qn { s with heap := h', toks := tk' }) →
      wpAny (model prog w) A (execs body env) (FlowPost Q Qn) E { s with heap := h, toks := tk })
    (done : ∀ (c : σ) (u : Str → Option Value) h tk, P vs.length c → Fr h₀ env.locals h (kstB u (ps c)) → News h₀ env.locals h (Led c) → Q .next { s with heap := h, toks := tk }) :
    wpAny (model prog w) A (pyIter (.ref l)) (fun it s₂ => LoopAtV prog w A h₀ env x body Q E it s₂) E s := by
  have hlo := (N _ hl).1
  have hls : s.heap.IsList l vs.toArray := ⟨_, hlo, rfl, nl, rfl⟩
  have hlt : l < s.heap.objs.size := Heap.lt_size hlo
  refine wpAny_pyIter_list hls ?_
  have W : Walks prog w A s.heap.objs.size [s.heap.objs.size, l] [s.heap.objs.size] vs.length (fun i v => vs[i]? = some v) (fun i h => h.IsListIter s.heap.objs.size l i ∧ h.get? l = some (listOf vs.toArray nl)) := by
    have W := Walks.list (prog := prog) (w := w) hh s.heap.objs.size l (Nat.ne_of_lt hlt) vs.toArray
    refine ⟨W.sub, fun i h h' st hk => ⟨st.1.at fun o e => hk _ (by simp) o e, hk _ (by simp) _ st.2⟩, ?_, ?_, ?_⟩
    · intro i s' Q' E' hi st hQ
      refine W.item i s' Q' E' (by simpa using hi) ⟨st.1, ⟨_, st.2, rfl, nl, rfl⟩⟩ fun v h' tk hv st' hk => ?_
      exact hQ v h' tk (by simpa using hv) ⟨st'.1, hk _ _ (by simpa using Nat.ne_of_lt hlt) st.2⟩ hk
    · intro s' Q' E' st hQ
      exact W.done s' Q' E' ⟨by simpa using st.1, ⟨_, st.2, rfl, nl, rfl⟩⟩ hQ
    · intro i s' Q' E' st hQ
      exact W.self i s' Q' E' ⟨st.1, ⟨_, st.2, rfl, nl, rfl⟩⟩ hQ
  have hnI : ∀ p ∈ news, p.1 < s.heap.objs.size := fun p hp => Heap.lt_size (N p hp).1
  have hLI : env.locals ≠ s.heap.objs.size := fun e => absurd F.ns.lt (e ▸ Nat.lt_irrefl _)
  refine loopV_st ps Led P c₀ W ?_ ?_ ⟨⟨_, Heap.get?_push_size _ rfl, rfl, rfl⟩, Heap.get?_push_of_some _ hlo⟩ (F.push _) (news := news) (fun p hp => ⟨Heap.get?_push_of_some _ (N p hp).1, (N p hp).2⟩) hN ?_ hk hp ?_ ?_
  · intro hm
    rcases List.mem_cons.mp hm with e | hm
    · exact hLI e
    · exact (N _ hl).2.1 (List.mem_singleton.mp hm).symm
  · intro b hb
    rw [List.mem_singleton.mp hb]
    exact next_is_new F
  · intro p hp hI
    exact absurd (hnI p (hN p hp)) (List.mem_singleton.mp hI ▸ Nat.lt_irrefl _)
  · intro i v c u h tk own Qn hi hv hpc hoff hown hall hst F₁ N₁ hQn
    have hI0 : h₀.get? s.heap.objs.size = none := next_is_new F
    have own_l : ∀ p ∈ own, p.1 = s.heap.objs.size ∨ p = (l, listOf vs.toArray nl) := by
      intro p hp
      rcases List.mem_cons.mp (hown p hp) with e | e
      · exact .inl e
      · right
        have e := List.mem_singleton.mp e
        have := (N₁ p (List.mem_append_right _ hp)).1
        rw [e] at this
        have h2 := this.symm.trans hst.2
        obtain ⟨p1, p2⟩ := p
        simp only at e h2
        rw [e, Option.some.inj h2]
    obtain ⟨oI, hoI, _⟩ := id hst.1
    refine turn s.heap.objs.size i v c u h tk own Qn hnI hv hpc (fun p hp e => hoff p hp (by rw [e]; exact .head _)) ⟨oI, hall _ (.head _) hI0 _ hoI⟩ own_l F₁ N₁ fun c' u' h' tk' news' a b => hQn c' u' h' tk' news' a fun p hp e => b p hp (List.mem_singleton.mp e)
  · exact fun c u h tk => done c u h tk

/-- over a range of the ledger -/
theorem iter_range_st {σ : Type} {x : Str} {body : List Stmt} {r : Addr} {a₀ b₀ c₁ : Int} {t₀ u₀ v₀ : Tok} {n : Nat} {m₀ : Str → Option Value} {news : List (Addr × Obj)}
    (ps : σ → List (Str × Value)) (Led : σ → List (Addr × Obj)) (P : Nat → σ → Prop) (c₀ : σ)
    (hh : A.handled = none) (hr : IsRange s.heap r a₀ b₀ c₁ t₀ u₀ v₀) (hsmall : Builtin.Range.small a₀ b₀ c₁ = true) (hn : Builtin.Range.rangeSize a₀ b₀ c₁ = (n : Int)) (F : Fr h₀ env.locals s.heap m₀) (N : News h₀ env.locals s.heap news)
    (hN : ∀ p ∈ Led c₀, p ∈ news) (hk : ∀ p ∈ ps c₀, m₀ p.1 = some p.2) (hp : P 0 c₀)
    (turn : ∀ I i t (c : σ) (u : Str → Option Value) h tk own (Qn : Shared → Prop), (∀ p ∈ news, p.1 < I) → i < n → P i c → (∀ p ∈ Led c, p.1 ≠ I) → (∃ o, (I, o) ∈ own) → (∀ p ∈ own, p.1 = I) →
      Fr h₀ env.locals h (fun y => if y = x then some (.int (a₀ + (i : Int) * c₁) t) else kstB u (ps c) y) → News h₀ env.locals h (Led c ++ own) →
      (∀ (c' : σ) (u' : Str → Option Value) h' tk' news', P (i + 1) c' → (∀ p ∈ Led c', p.1 ≠ I) → Fr h₀ env.locals h' u' → (∀ p ∈ ps c', u' p.1 = some p.2) → News h₀ env.locals h' news' → (∀ p ∈ Led c' ++ own, p ∈ news') → Qn { s with heap := h', toks := tk' }) →
      wpAny (model prog w) A (execs body env) (FlowPost Q Qn) E { s with heap := h, toks := tk })
    (done : ∀ (c : σ) (u : Str → Option Value) h tk, P n c → Fr h₀ env.locals h (kstB u (ps c)) → News h₀ env.locals h (Led c) → Q .next { s with heap := h, toks := tk }) :
    wpAny (model prog w) A (pyIter (.ref r)) (fun it s₂ => LoopAtV prog w A h₀ env x body Q E it s₂) E s := by
  refine wpAny_pyIter_range hr hsmall ?_
  have W : Walks prog w A s.heap.objs.size [s.heap.objs.size] [s.heap.objs.size] n (fun i v => i < n ∧ ∃ t, v = .int (a₀ + i * c₁) t)
      (fun i h => IsRangeIter h s.heap.objs.size (a₀ + (i : Nat) * c₁) ((n : Int) - (i : Nat)) c₁) := (Walks.range hh _ a₀ c₁ n).bound
  have hnI : ∀ p ∈ news, p.1 < s.heap.objs.size := fun p hp => Heap.lt_size (N p hp).1
  have hLI : env.locals ≠ s.heap.objs.size := fun e => absurd F.ns.lt (e ▸ Nat.lt_irrefl _)
  refine loopV_st ps Led P c₀ W ?_ ?_ (by show IsRangeIter _ _ _ _ _; rw [hn]; simpa using Heap.get?_push_size _ rfl) (F.push _) (news := news) (fun p hp => ⟨Heap.get?_push_of_some _ (N p hp).1, (N p hp).2⟩) hN ?_ hk hp ?_ ?_
  · intro hm
    exact hLI (List.mem_singleton.mp hm)
  · intro b hb
    rw [List.mem_singleton.mp hb]
    exact next_is_new F
  · intro p hp hI
    exact absurd (hnI p (hN p hp)) (List.mem_singleton.mp hI ▸ Nat.lt_irrefl _)
  · rintro i v c u h tk own Qn hi ⟨_, t, rfl⟩ hpc hoff hown hall hst F₁ N₁ hQn
    have hI0 : h₀.get? s.heap.objs.size = none := next_is_new F
    refine turn s.heap.objs.size i t c u h tk own Qn hnI hi hpc (fun p hp e => hoff p hp (by rw [e]; exact .head _)) ⟨_, hall _ (.head _) hI0 _ hst⟩ (fun p hp => List.mem_singleton.mp (hown p hp)) F₁ N₁ fun c' u' h' tk' news' a b => hQn c' u' h' tk' news' a fun p hp e => b p hp (List.mem_singleton.mp e)
  · exact fun c u h tk => done c u h tk
/-- range(n) -/
theorem iter_up_st {σ : Type} {x : Str} {body : List Stmt} {r : Addr} {b₀ : Int} {t₀ u₀ v₀ : Tok} {n : Nat} {m₀ : Str → Option Value} {news : List (Addr × Obj)}
    (ps : σ → List (Str × Value)) (Led : σ → List (Addr × Obj)) (P : Nat → σ → Prop) (c₀ : σ)
    (hh : A.handled = none) (hr : IsRange s.heap r 0 b₀ 1 t₀ u₀ v₀) (hn : b₀ = (n : Int)) (hz : n ≤ 1000) (F : Fr h₀ env.locals s.heap m₀) (N : News h₀ env.locals s.heap news)
    (hN : ∀ p ∈ Led c₀, p ∈ news) (hk : ∀ p ∈ ps c₀, m₀ p.1 = some p.2) (hp : P 0 c₀)
    (turn : ∀ I i t (c : σ) (u : Str → Option Value) h tk own (Qn : Shared → Prop), (∀ p ∈ news, p.1 < I) → i < n → P i c → (∀ p ∈ Led c, p.1 ≠ I) → (∃ o, (I, o) ∈ own) → (∀ p ∈ own, p.1 = I) →
      Fr h₀ env.locals h (fun y => if y = x then some (.int (i : Int) t) else kstB u (ps c) y) → News h₀ env.locals h (Led c ++ own) →
      (∀ (c' : σ) (u' : Str → Option Value) h' tk' news', P (i + 1) c' → (∀ p ∈ Led c', p.1 ≠ I) → Fr h₀ env.locals h' u' → (∀ p ∈ ps c', u' p.1 = some p.2) → News h₀ env.locals h' news' → (∀ p ∈ Led c' ++ own, p ∈ news') → Qn { s with heap := h', toks := tk' }) →
      wpAny (model prog w) A (execs body env) (FlowPost Q Qn) E { s with heap := h, toks := tk })
    (done : ∀ (c : σ) (u : Str → Option Value) h tk, P n c → Fr h₀ env.locals h (kstB u (ps c)) → News h₀ env.locals h (Led c) → Q .next { s with heap := h, toks := tk }) :
    wpAny (model prog w) A (pyIter (.ref r)) (fun it s₂ => LoopAtV prog w A h₀ env x body Q E it s₂) E s := by
  subst hn
  refine iter_range_st ps Led P c₀ hh hr ?_ ?_ F N hN hk hp (fun I i t c u h tk own Qn a b c' d e f F' N' hQ => ?_) done
  · exact PySem.small_one (by lia) (by lia) (by lia) (by lia)
  · rw [PySem.rangeSize_one]; split <;> lia
  · have e0 : (0 : Int) + (i : Int) * 1 = (i : Int) := by lia
    rw [e0] at F'
    exact turn I i t c u h tk own Qn a b c' d e f F' N' hQ
end
end Mine
namespace Mine
def IsV (_v : Value) : Prop := True
theorem fr_is {h₀ h : Heap} {L : Addr} {m : Str → Option Value} (_F : Fr h₀ L h m) (x : Str) {v : Value} (_e : m x = some v) : IsV v := trivial
theorem fr_int {h₀ h : Heap} {L : Addr} {m : Str → Option Value} (_F : Fr h₀ L h m) (x : Str) (i : Int) {t : Tok} (e : m x = some (.int i t)) : ∃ t, m x = some (.int i t) := ⟨t, e⟩
theorem fr_str {h₀ h : Heap} {L : Addr} {m : Str → Option Value} (_F : Fr h₀ L h m) (x : Str) (i : Str) {t : Tok} (e : m x = some (.str i t)) : ∃ t, m x = some (.str i t) := ⟨t, e⟩
theorem fr_val {h₀ h : Heap} {L : Addr} {m : Str → Option Value} (_F : Fr h₀ L h m) (x : Str) (v : Value) (e : m x = some v) : m x = some v := e
theorem all_nil {p : Str × Value → Prop} : ∀ q ∈ ([] : List (Str × Value)), p q := fun _ h => nomatch h
theorem all_cons {p : Str × Value → Prop} {a : Str × Value} {l : List (Str × Value)} (h : p a) (r : ∀ q ∈ l, p q) : ∀ q ∈ a :: l, p q := List.forall_mem_cons.mpr ⟨h, r⟩
end Mine
end
section
open PySem PySem.W PyProof.Rows
namespace Mine
section
variable {prog : Program} {w : World} {A : Around} {E : Value → Shared → Prop} {s : Shared} {h₀ : Heap} {L : Addr} {m : Str → Option Value} {news news' : List (Addr × Obj)}
theorem isList_led {h : Heap} {l : Addr} {its : Array Value} {n : Nat} (N : News h₀ L h news) (hm : (l, listOf its n) ∈ news) : h.IsList l its := ⟨_, (N _ hm).1, rfl, n, rfl⟩
theorem item_led {value slice : PySem.Expr} {l : Addr} {vs : List Value} {n : Nat} {k : Int} {u : Tok} {v : Value} {Q : Value → Shared → Prop}
    (N : News h₀ L s.heap news) (hm : (l, listOf vs.toArray n) ∈ news) (h0 : 0 ≤ k) (hhi : k < 2 ^ 63) (hx : vs[k.toNat]? = some v) (h : Q v s)
    (hs : subscripted slice false (.ref l) (.int k u) = operate [.ref l, .int k u] (getItem (.ref l) (.int k u)) := by with_unfolding_all rfl) :
    wpAny (model prog w) A (subscriptTail value slice (.ref l) (.int k u)) Q E s :=
  tail_any (isList_led N hm).typeIs slot_list_getitem.lookup (wpAny_getItem_list (isList_led N hm) h0 hhi (by simpa using hx) h) hs
theorem len_led {l : Addr} {vs : List Value} {n : Nat} {Q : Value → Shared → Prop} (N : News h₀ L s.heap news) (hm : (l, listOf vs.toArray n) ∈ news) (hz : vs.length < 2 ^ 63)
    (h : Q (.int (vs.length : Int) (s.toks + 1)) { s with toks := s.toks + 1 + 1 }) : wpAny (model prog w) A (call (.builtin "len") [.ref l]) Q E s :=
  len_list (isList_led N hm) (by simp; lia) (by simpa using h)
end
/-- the lamp's three floats, and what the colour functions ask of them -/
def LampZ (r g b : UInt64) : Prop := (¬ Float64.isZero (Float64.add (max3 r g b) (min3 r g b)) = true) ∧ (¬ Float64.isZero (Float64.sub (max3 r g b) (min3 r g b)) = true) ∧ (¬ Float64.isZero (Float64.sub (Float64.sub 4611686018427387904 (max3 r g b)) (min3 r g b)) = true)
def LampAt (news : List (Addr × Obj)) (v : Value) (l : UInt64) : Prop := ∃ (x : Addr) (r g b : UInt64) (tr tg tb : Tok), v = .ref x ∧ (x, tupO [.float r tr, .float g tg, .float b tb]) ∈ news ∧ LampZ r g b ∧ lP r g b = l
end Mine
namespace Mine
def Lamps (news : List (Addr × Obj)) (vs : List Value) (ls : List UInt64) : Prop := ls.length = vs.length ∧ ∀ (i : Nat) v l, vs[i]? = some v → ls[i]? = some l → LampAt news v l
theorem Lamps.at {news : List (Addr × Obj)} {vs : List Value} {ls : List UInt64} (h : Lamps news vs ls) {i : Nat} (hi : i < vs.length) : LampAt news vs[i] (ls.getD i 0) := by
  have h1 : i < ls.length := by rw [h.1]; exact hi
  refine h.2 i _ _ (List.getElem?_eq_getElem hi) ?_
  rw [List.getD_eq_getElem?_getD, List.getElem?_eq_getElem h1]; rfl
end Mine
namespace Mine
def insAt (vs : List Value) (p : Nat) (v : Value) : List Value := vs.take p ++ v :: vs.drop p
theorem kl_ins_nat {vs : List Value} {p : Nat} (v : Value) (h : p ≤ vs.length) : kl_ins vs.toArray.toList (p : Int) v = insAt vs p v := by
  unfold kl_ins insAt
  have h1 : ¬ (p : Int) < 0 := by lia
  simp only [if_neg h1, Int.toNat_natCast, Nat.min_eq_left h]
theorem fits_nat {p : Nat} (h : p ≤ 100) : Builtin.List.listFitsIndex (p : Int) = true := by
  simp only [Builtin.List.listFitsIndex, Bool.and_eq_true, decide_eq_true_eq]; lia
theorem Upd.mem {d : Addr} {o o' : Obj} {l l' : List (Addr × Obj)} (U : Upd d o o' l l') : (d, o) ∈ l := by
  obtain ⟨pre, post, rfl, _⟩ := U.split
  simp
end Mine
namespace Mine
theorem room_100 {vs : List Value} (h : vs.length ≤ 100) : vs.toArray.toList.length ≤ sizeLine := by
  rw [sizeLine_eq]; have : vs.toArray.toList.length = vs.length := rfl; lia
end Mine
namespace Mine
section
variable {prog : Program} {w : World} {A : Around} {E : Value → Shared → Prop} {s : Shared} {h₀ : Heap} {L D : Addr} {m : Str → Option Value} {news news' : List (Addr × Obj)} {n : Nat}
theorem ins_led {vs : List Value} {p : Nat} {u : Tok} {y : Value} {Q : Value → Shared → Prop} (F : Fr h₀ L s.heap m) (N : News h₀ L s.heap news) (hz : vs.length ≤ 100) (hp : p ≤ vs.length)
    (U : Upd D (listOf vs.toArray n) (listOf (insAt vs p y).toArray (n + 1)) news news') (h : ∀ h', Fr h₀ L h' m → News h₀ L h' news' → Q .none { s with heap := h' }) :
    wpAny (model prog w) A (call (.builtin "list.insert") [.ref D, .int (p : Int) u, y]) Q E s :=
  kl_insert F N (fits_nat (Nat.le_trans hp hz)) (kl_ins_nat y hp) U (room_100 hz) h
end
end Mine
end
section
open PySem PySem.W PyProof.Rows
namespace Mine
section
variable {prog : Program} {w : World} {A : Around} {E : Value → Shared → Prop} {s : Shared} {h₀ : Heap} {L a : Addr} {m : Str → Option Value} {news news' : List (Addr × Obj)} {x y : Int} {t u : Tok} {Q : Value → Shared → Prop} {env : Env}
  {cn : Str} {cs : Scope} {ccd : Value} {cl : List (Str × Addr)}
theorem g_add (h : ∀ t tk, Q (.int (x + y) t) { s with toks := tk }) : wpAny (model prog w) A (binaryOp .Add (.int x t) (.int y u)) Q E s := PyProof.Rows.add_int (h _ _)
theorem g_sub (h : ∀ t tk, Q (.int (x - y) t) { s with toks := tk }) : wpAny (model prog w) A (binaryOp .Sub (.int x t) (.int y u)) Q E s := PyProof.Rows.sub_int (h _ _)
theorem g_mul (hm : IntMulOk x y) (h : ∀ t tk, Q (.int (x * y) t) { s with toks := tk }) : wpAny (model prog w) A (binaryOp .Mult (.int x t) (.int y u)) Q E s := PyProof.Rows.mul_int (h _ _) hm
theorem g_mod (hb : 0 < y) (h : ∀ t tk, Q (.int (x % y) t) { s with toks := tk }) : wpAny (model prog w) A (binaryOp .Mod (.int x t) (.int y u)) Q E s :=
  PyProof.Rows.mod_int' (by lia) (by rw [Int.fmod_eq_emod_of_nonneg x (by lia : 0 ≤ y)]; exact h _ _)
theorem g_fdiv (hb : 0 < y) (hs : y.natAbs < 1073741824) (h : ∀ t tk, Q (.int (x / y) t) { s with toks := tk }) : wpAny (model prog w) A (binaryOp .FloorDiv (.int x t) (.int y u)) Q E s :=
  PyProof.Rows.floordiv_int (by lia) (by rw [Int.fdiv_eq_ediv_of_nonneg x (by lia : 0 ≤ y)]; exact h _ _) (Or.inl (PyProof.noPylong_small hs))
theorem g_cint {k : Nat} {pos : Pos} (h : ∀ t tk, Q (.int x t) { s with toks := tk }) : wpAny (model prog w) A (eval (.Constant (.int x) k pos) env) Q E s := wpAny_Constant_int (h _ _)
theorem g_cstr {z : Str} {k : Nat} {pos : Pos} (h : ∀ t tk, Q (.str z t) { s with toks := tk }) : wpAny (model prog w) A (eval (.Constant (.str z) k pos) env) Q E s := Calls.Constant_str (h _ _)
theorem g_store {z : Str} {v : Value} {Q : Unit → Shared → Prop} (F : Fr h₀ L s.heap m) (N : News h₀ L s.heap news)
    (h : ∀ h' tk, Fr h₀ L h' (fun y => if y = z then some v else m y) → News h₀ L h' news → Q () { s with heap := h', toks := tk })
    (hk : cs.kind = .function) (hx : (envX cn cs L a ccd cl).kindOf z = some .local) : wpAny (model prog w) A (storeName (envX cn cs L a ccd cl) z v) Q E s :=
  storeX_L F N (fun h' F' N' => h h' _ F' N') hk hx
theorem g_len {l : Addr} {vs : List Value} {n : Nat} (N : News h₀ L s.heap news) (hm : (l, listOf vs.toArray n) ∈ news) (hz : vs.length < 2 ^ 63)
    (h : ∀ t tk, Q (.int (vs.length : Int) t) { s with toks := tk }) : wpAny (model prog w) A (call (.builtin "len") [.ref l]) Q E s := len_led N hm hz (h _ _)
end
end Mine
end
section
open PySem PySem.W PyProof.Rows
namespace Mine
local macro_rules | `(tactic| walk_at "callWith") => `(tactic| first | (with_reducible refine callWith_method0 ?_) | ((with_reducible first | refine callWith_builtin1 ?h ?he ?hp | refine callWith_method1 ?h ?he ?hp); (case he => k_dflt (exact rfl)); (case hp => k_dflt (exact rfl))))
local macro_rules | `(tactic| walk_at "callWith builtin:sum") => `(tactic| first | (with_reducible refine callWith_method0 ?_) | ((with_reducible first | refine callWith_builtin1 ?h ?he ?hp | refine callWith_method1 ?h ?he ?hp); (case he => k_dflt (exact rfl)); (case hp => k_dflt (exact rfl))))
local macro_rules | `(tactic| walk_at "callWith builtin:len") => `(tactic| first | (with_reducible refine callWith_method0 ?_) | ((with_reducible first | refine callWith_builtin1 ?h ?he ?hp | refine callWith_method1 ?h ?he ?hp); (case he => k_dflt (exact rfl)); (case hp => k_dflt (exact rfl))))
local macro_rules | `(tactic| walk_at "binaryOp Add int int") => `(tactic| ((with_reducible refine g_add ?_); walk_at "ie"))
local macro_rules | `(tactic| walk_at "binaryOp Sub int int") => `(tactic| ((with_reducible refine g_sub ?_); walk_at "ie"))
local macro_rules | `(tactic| walk_at "binaryOp Mod int int") => `(tactic| ((with_reducible refine g_mod ?k1 ?_); (case k1 => lia); walk_at "ie"))
local macro_rules | `(tactic| walk_at "binaryOp FloorDiv int int") => `(tactic| ((with_reducible refine g_fdiv ?k1 ?k2 ?_); (case k1 => lia); (case k2 => lia); walk_at "ie"))
local macro_rules | `(tactic| walk_at "eval Constant int") => `(tactic| ((with_reducible refine g_cint ?_); walk_at "ie"))
local macro_rules | `(tactic| walk_at "eval Constant str") => `(tactic| ((with_reducible refine g_cstr ?_); walk_at "ie"))
local macro_rules | `(tactic| walk_at "storeName") => `(tactic| (k_here; k_dflt (refine' g_store (by k_asm) (by k_asm) ?_ (by rfl) (by rfl); k_whole); walk_at "in"))
local macro_rules | `(tactic| walk_at "call builtin:len") => `(tactic| (k_here; k_dflt (refine' g_len (by k_asm) (by (first | assumption | k_mem)) (by lia) ?_); walk_at "ie"))
local macro_rules | `(tactic| walk_at "FlowPost") => `(tactic| refine Halt.mk ?_)
local macro_rules | `(tactic| walk_at "go") => `(tactic| repeat' (first | (k_unfold; (try dsimp only)) | walk1 | (dsimp only; walk1) | (leave1; try dsimp only)))
local macro_rules | `(tactic| walk_at "deep") => `(tactic| first | (with_reducible exact List.mem_cons_self) | (with_reducible assumption) | (apply List.mem_append_left; with_reducible assumption) | (apply List.mem_append_right; with_reducible assumption) | (refine List.mem_cons_of_mem _ ?_; walk_at "deep"))
local macro_rules | `(tactic| walk_at "mem") => `(tactic| (first | (with_reducible assumption) | k_mem | walk_at "deep"))
section
open PySem PySem.W PyProof.Rows PySem.Flt

local macro_rules | `(tactic| walk_at "call ref") => `(tactic| (k_here; (with_reducible show wpAny _ _ (call (Value.ref 38) [Value.float _ _, Value.float _ _, Value.float _ _]) _ _ _); k_dflt (refine' c_hls (by assumption) (by k_asm) (by assumption) (by k_asm) (by assumption) (by rfl) (by ktr_room) (by assumption) (by assumption) (by assumption) ?_); intro D' h' tk' x' z' t1' t2' t3' F' N' l1'))
section
variable {w : World} {mean : ExcName → Option Value} {mg mb : Str → Option Value} {dp un : Nat} {gd : Option (List Code)} {cn : Str} {cs : Scope} {a : Addr} {ccd : Value} {cl : List (Str × Addr)} {outer : List Env} {A₀ : Around} {base h₀ : Heap} {L : Addr} {m : Str → Option Value} {news : List (Addr × Obj)} {s : Shared} {Q E : Value → Shared → Prop}
set_option maxRecDepth 100000
set_option maxHeartbeats 8000000

theorem c_light {v : Value} {l : UInt64} (B : Below A₀ base outer h₀) (F : Fr h₀ L s.heap m) (X : (Mine.hd.heap_39 w.params).In h₀) (N : News h₀ L s.heap news) (T : Top Mine.hd.view_39 looseL mean mg mb h₀) (hk : cs.kind = .function) (hd : dp + 6 < recursionLimit) (hl : LampAt news v l)
    (hret : ∀ h' tk t, Fr h₀ L h' m → News h₀ L h' news → Q (.float l t) { s with heap := h', toks := tk }) :
    wpAny (model Challenge.rw_sc0061_01.row.prog w) (ktrTop dp un gd cn cs L a ccd cl outer) (call (.ref 108) [v]) Q E s := by
  obtain ⟨x, r, g, b, tr, tg, tb, rfl, hm, ⟨z1, z2, z3⟩, rfl⟩ := hl
  revert X
  k_fill
  intro X
  refine wpAny_call ?_
  k_dflt ktr_enter
  k_steps
  exact hret _ _ _ (by assumption) (Mine.News.sub (by assumption) fun _ hp => List.Mem.tail _ hp)
end
end
section
open PySem PySem.W PyProof.Rows PySem.Flt
local macro_rules | `(tactic| walk_at "enterD") => `(tactic| (refine' code_def ?k1 ?k2 ?k3 ?k4 ?k5 ?kA ?kF ?kK ?k6 ?k7 ?k8 ?k9 ?kB ?_ ?c2 ?c3 ?c4 ?c5; (case kA => exact rfl); (case kF => exact rfl); (case kK => assumption); (case k1 => k_asm); (case k2 => k_asm); (case k3 => k_asm); (case k4 => k_asm); (case k5 => k_asm); (case k6 => k_is); (case k7 => k_is); (case k8 => ktr_room); (case k9 => first | exact binds_K (by k_in) rfl (by k_is) rfl rfl rfl); (case c5 => decide); (case kB => exact locs rfl); (case c2 => exact rfl); (case c3 => exact rfl); (case c4 => exact rfl); k_whole; walk_at "ie"; (try k_fold)))

local macro_rules | `(tactic| walk_at "call ref") => `(tactic| (k_here; (with_reducible show wpAny _ _ (call (Value.ref 108) [_]) _ _ _); (with_reducible rename Fr _ _ _ _ => kF); k_dflt (refine' c_light (by assumption) kF (by assumption) (by k_asm) (by assumption) (by rfl) (by ktr_room) (by exact Lamps.at (by assumption) _) ?_); walk_at "ie"))
local macro_rules | `(tactic| walk_at "exec While Compare cons nil") => `(tactic| refine Halt.mk ?_)
local macro_rules | `(tactic| walk_at "subscriptTail Name Name ref int") => `(tactic| ((try dsimp only); k_here; k_dflt (refine' item_led (by k_asm) (by assumption) (by lia) (by lia) (by exact List.getElem?_eq_getElem (by lia)) ?_ (by with_unfolding_all rfl))))
section
variable {w : World} {mean : ExcName → Option Value} {mg mb : Str → Option Value} {dp un : Nat} {gd : Option (List Code)} {cn : Str} {cs : Scope} {a : Addr} {ccd : Value} {cl : List (Str × Addr)} {outer : List Env} {A₀ : Around} {base h₀ : Heap} {L : Addr} {m : Str → Option Value} {news : List (Addr × Obj)} {s : Shared} {Q E : Value → Shared → Prop}
set_option maxRecDepth 100000
set_option maxHeartbeats 8000000

theorem c_bis {S : Addr} {vs : List Value} {nS : Nat} {y : UInt64} {ty : Tok} {ls : List UInt64} (B : Below A₀ base outer h₀) (F : Fr h₀ L s.heap m) (X : (Mine.hd.heap_39 w.params).In h₀) (N : News h₀ L s.heap news) (T : Top Mine.hd.view_39 looseL mean mg mb h₀) (hk : cs.kind = .function) (hd : dp + 12 < recursionLimit) (hm : (S, listOf vs.toArray nS) ∈ news) (hz : vs.length ≤ 100)
    (hL : Lamps news vs ls) (mono : ∀ (i j : Nat) li lj, i ≤ j → ls[i]? = some li → ls[j]? = some lj → ltF y li = true → ltF y lj = true)
    (hret : ∀ h' tk t, Fr h₀ L h' m → News h₀ L h' news → Q (.int ((ls.findIdx (ltF y) : Nat) : Int) t) { s with heap := h', toks := tk }) :
    wpAny (model Challenge.rw_sc0061_01.row.prog w) (ktrTop dp un gd cn cs L a ccd cl outer) (call (.ref 70) [.ref S, .float y ty] [(Str.ofString "key", .ref 108)]) Q E s := by
  revert X
  k_fill
  intro X
  refine wpAny_call ?_
  k_dflt (walk_at "enterD")
  walk_at "go"
  refine Halt.out ?_
  rename Fr _ _ _ _ => F1
  rename News _ _ _ _ => N1
  obtain ⟨t1, e1⟩ := fr_int F1 (Str.ofString "lo") ((0 : Nat) : Int) rfl
  obtain ⟨t2, e2⟩ := fr_int F1 (Str.ofString "hi") ((vs.length : Nat) : Int) rfl
  refine while_st (σ := Nat × Nat × Tok × Tok) (fun c => [(Str.ofString "lo", .int c.1 c.2.2.1), (Str.ofString "hi", .int c.2.1 c.2.2.2), (Str.ofString "a", .ref S), (Str.ofString "x", .float y ty), (Str.ofString "key", .ref 108)]) (fun _ => news)
    (fun c => c.1 ≤ c.2.1 ∧ c.2.1 ≤ vs.length ∧ (∀ i, i < c.1 → ∀ l, ls[i]? = some l → ltF y l = false) ∧ (∀ l, ls[c.2.1]? = some l → ltF y l = true)) (fun c => c.2.1 - c.1) (0, vs.length, t1, t2) F1 N1 (fun _ h => h) (all_cons e1 (all_cons e2 (all_cons rfl (all_cons rfl (all_cons rfl all_nil))))) ?hp ?turn (by passes_own)
  case hp => refine ⟨Nat.zero_le _, Nat.le_refl _, fun i h => absurd h (Nat.not_lt_zero _), fun l h => ?_⟩; rw [← hL.1, List.getElem?_eq_none (Nat.le_refl _)] at h; cases h
  case turn =>
    clear F1 N1 e1 e2
    rintro ⟨lo, hi, t1, t2⟩ u h tk Qn ⟨p1, p2, p3, p4⟩ F' N' hQ
    dsimp only at p1 p2 p3 p4 F' N' hQ
    k_fold
    walk_at "go"
    · refine Halt.out ?_
      show Qn _
      rename (_ == some Ordering.lt) = true => hc
      rename Fr _ _ _ _ => F3
      rename News _ _ _ _ => N3
      obtain ⟨k, hk9⟩ : ∃ k : Nat, ((lo : Int) + hi) / 2 = (k : Int) := ⟨(((lo : Int) + hi) / 2).toNat, by lia⟩
      rw [hk9] at hc
      simp only [hk9] at F3
      obtain ⟨t5, e5⟩ := fr_int F3 (Str.ofString "hi") (k : Int) rfl
      refine hQ (lo, k, t1, t5) _ _ _ _ ⟨by show lo ≤ k; lia, by show k ≤ vs.length; lia, p3, fun l hl => ?_⟩ (by show k - lo < hi - lo; lia) F3 (all_cons rfl (all_cons e5 (all_cons rfl (all_cons rfl (all_cons rfl all_nil))))) N3 (fun _ h => h)
      rw [List.getD_eq_getElem?_getD, Int.toNat_natCast, hl] at hc
      exact hc
    · refine Halt.out ?_
      show Qn _
      rename (_ == some Ordering.lt) = false => hc
      rename Fr _ _ _ _ => F3
      rename News _ _ _ _ => N3
      obtain ⟨k, hk9⟩ : ∃ k : Nat, ((lo : Int) + hi) / 2 = (k : Int) := ⟨(((lo : Int) + hi) / 2).toNat, by lia⟩
      rw [hk9] at hc
      simp only [hk9] at F3
      obtain ⟨t5, e5⟩ := fr_int F3 (Str.ofString "lo") ((k + 1 : Nat) : Int) rfl
      refine hQ (k + 1, hi, t5, t2) _ _ _ _ ⟨by show k + 1 ≤ hi; lia, p2, fun i hi9 l hl => ?_, p4⟩ (by show hi - (k + 1) < hi - lo; lia) F3 (all_cons e5 (all_cons rfl (all_cons rfl (all_cons rfl (all_cons rfl all_nil))))) N3 (fun _ h => h)
      have hk1 : k < ls.length := by rw [hL.1]; lia
      rw [List.getD_eq_getElem?_getD, Int.toNat_natCast, List.getElem?_eq_getElem hk1] at hc
      cases hv : ltF y l with
      | false => rfl
      | true =>
        have := mono i k l _ (by have : i < k + 1 := hi9; lia) hl (List.getElem?_eq_getElem hk1) hv
        exact absurd (this.symm.trans hc) (by decide)
    · have e9 : lo = hi := by lia
      subst e9
      have e8 : ls.findIdx (ltF y) = lo := by
        apply Nat.le_antisymm
        · refine Nat.not_lt.mp fun q => ?_
          have q1 : lo < ls.length := Nat.lt_of_lt_of_le q List.findIdx_le_length
          have := List.not_of_lt_findIdx q
          exact absurd ((p4 _ (List.getElem?_eq_getElem q1)).symm.trans this) (by decide)
        · refine Nat.not_lt.mp fun q => ?_
          have q1 : ls.findIdx (ltF y) < ls.length := by rw [hL.1]; lia
          have := p3 _ q _ (List.getElem?_eq_getElem q1)
          exact absurd (this.symm.trans (List.findIdx_getElem (p := ltF y) (xs := ls) (w := q1))) (by decide)
      rw [← e8]
      exact hret _ _ _ (by assumption) (by assumption)

theorem c_bis4 {t0 : Tok} {S : Addr} {vs : List Value} {nS : Nat} {y : UInt64} {ty : Tok} {ls : List UInt64} (B : Below A₀ base outer h₀) (F : Fr h₀ L s.heap m) (X : (Mine.hd.heap_39 w.params).In h₀) (N : News h₀ L s.heap news) (T : Top Mine.hd.view_39 looseL mean mg mb h₀) (hk : cs.kind = .function) (hd : dp + 12 < recursionLimit) (hm : (S, listOf vs.toArray nS) ∈ news) (hz : vs.length ≤ 100)
    (hL : Lamps news vs ls) (mono : ∀ (i j : Nat) li lj, i ≤ j → ls[i]? = some li → ls[j]? = some lj → ltF y li = true → ltF y lj = true)
    (hret : ∀ h' tk t, Fr h₀ L h' m → News h₀ L h' news → Q (.int ((ls.findIdx (ltF y) : Nat) : Int) t) { s with heap := h', toks := tk }) :
    wpAny (model Challenge.rw_sc0061_01.row.prog w) (ktrTop dp un gd cn cs L a ccd cl outer) (call (.ref 70) [.ref S, .float y ty, .int 0 t0, .none] [(Str.ofString "key", .ref 108)]) Q E s := by
  revert X
  k_fill
  intro X
  refine wpAny_call ?_
  k_dflt (walk_at "enterD")
  walk_at "go"
  refine Halt.out ?_
  rename Fr _ _ _ _ => F1
  rename News _ _ _ _ => N1
  obtain ⟨t1, e1⟩ := fr_int F1 (Str.ofString "lo") ((0 : Nat) : Int) rfl
  obtain ⟨t2, e2⟩ := fr_int F1 (Str.ofString "hi") ((vs.length : Nat) : Int) rfl
  refine while_st (σ := Nat × Nat × Tok × Tok) (fun c => [(Str.ofString "lo", .int c.1 c.2.2.1), (Str.ofString "hi", .int c.2.1 c.2.2.2), (Str.ofString "a", .ref S), (Str.ofString "x", .float y ty), (Str.ofString "key", .ref 108)]) (fun _ => news)
    (fun c => c.1 ≤ c.2.1 ∧ c.2.1 ≤ vs.length ∧ (∀ i, i < c.1 → ∀ l, ls[i]? = some l → ltF y l = false) ∧ (∀ l, ls[c.2.1]? = some l → ltF y l = true)) (fun c => c.2.1 - c.1) (0, vs.length, t1, t2) F1 N1 (fun _ h => h) (all_cons e1 (all_cons e2 (all_cons rfl (all_cons rfl (all_cons rfl all_nil))))) ?hp ?turn (by passes_own)
  case hp => refine ⟨Nat.zero_le _, Nat.le_refl _, fun i h => absurd h (Nat.not_lt_zero _), fun l h => ?_⟩; rw [← hL.1, List.getElem?_eq_none (Nat.le_refl _)] at h; cases h
  case turn =>
    clear F1 N1 e1 e2
    rintro ⟨lo, hi, t1, t2⟩ u h tk Qn ⟨p1, p2, p3, p4⟩ F' N' hQ
    dsimp only at p1 p2 p3 p4 F' N' hQ
    k_fold
    walk_at "go"
    · refine Halt.out ?_
      show Qn _
      rename (_ == some Ordering.lt) = true => hc
      rename Fr _ _ _ _ => F3
      rename News _ _ _ _ => N3
      obtain ⟨k, hk9⟩ : ∃ k : Nat, ((lo : Int) + hi) / 2 = (k : Int) := ⟨(((lo : Int) + hi) / 2).toNat, by lia⟩
      rw [hk9] at hc
      simp only [hk9] at F3
      obtain ⟨t5, e5⟩ := fr_int F3 (Str.ofString "hi") (k : Int) rfl
      refine hQ (lo, k, t1, t5) _ _ _ _ ⟨by show lo ≤ k; lia, by show k ≤ vs.length; lia, p3, fun l hl => ?_⟩ (by show k - lo < hi - lo; lia) F3 (all_cons rfl (all_cons e5 (all_cons rfl (all_cons rfl (all_cons rfl all_nil))))) N3 (fun _ h => h)
      rw [List.getD_eq_getElem?_getD, Int.toNat_natCast, hl] at hc
      exact hc
    · refine Halt.out ?_
      show Qn _
      rename (_ == some Ordering.lt) = false => hc
      rename Fr _ _ _ _ => F3
      rename News _ _ _ _ => N3
      obtain ⟨k, hk9⟩ : ∃ k : Nat, ((lo : Int) + hi) / 2 = (k : Int) := ⟨(((lo : Int) + hi) / 2).toNat, by lia⟩
      rw [hk9] at hc
      simp only [hk9] at F3
      obtain ⟨t5, e5⟩ := fr_int F3 (Str.ofString "lo") ((k + 1 : Nat) : Int) rfl
      refine hQ (k + 1, hi, t5, t2) _ _ _ _ ⟨by show k + 1 ≤ hi; lia, p2, fun i hi9 l hl => ?_, p4⟩ (by show hi - (k + 1) < hi - lo; lia) F3 (all_cons e5 (all_cons rfl (all_cons rfl (all_cons rfl (all_cons rfl all_nil))))) N3 (fun _ h => h)
      have hk1 : k < ls.length := by rw [hL.1]; lia
      rw [List.getD_eq_getElem?_getD, Int.toNat_natCast, List.getElem?_eq_getElem hk1] at hc
      cases hv : ltF y l with
      | false => rfl
      | true =>
        have := mono i k l _ (by have : i < k + 1 := hi9; lia) hl (List.getElem?_eq_getElem hk1) hv
        exact absurd (this.symm.trans hc) (by decide)
    · have e9 : lo = hi := by lia
      subst e9
      have e8 : ls.findIdx (ltF y) = lo := by
        apply Nat.le_antisymm
        · refine Nat.not_lt.mp fun q => ?_
          have q1 : lo < ls.length := Nat.lt_of_lt_of_le q List.findIdx_le_length
          have := List.not_of_lt_findIdx q
          exact absurd ((p4 _ (List.getElem?_eq_getElem q1)).symm.trans this) (by decide)
        · refine Nat.not_lt.mp fun q => ?_
          have q1 : ls.findIdx (ltF y) < ls.length := by rw [hL.1]; lia
          have := p3 _ q _ (List.getElem?_eq_getElem q1)
          exact absurd (this.symm.trans (List.findIdx_getElem (p := ltF y) (xs := ls) (w := q1))) (by decide)
      rw [← e8]
      exact hret _ _ _ (by assumption) (by assumption)
end
end
section
open PySem PySem.W PyProof.Rows PySem.Flt
local macro_rules | `(tactic| walk_at "enterD") => `(tactic| (refine' code_def ?k1 ?k2 ?k3 ?k4 ?k5 ?kA ?kF ?kK ?k6 ?k7 ?k8 ?k9 ?kB ?_ ?c2 ?c3 ?c4 ?c5; (case kA => exact rfl); (case kF => exact rfl); (case kK => assumption); (case k1 => k_asm); (case k2 => k_asm); (case k3 => k_asm); (case k4 => k_asm); (case k5 => k_asm); (case k6 => k_is); (case k7 => k_is); (case k8 => ktr_room); (case k9 => first | exact binds_K (by k_in) rfl (by k_is) rfl rfl rfl); (case c5 => decide); (case kB => exact locs rfl); (case c2 => exact rfl); (case c3 => exact rfl); (case c4 => exact rfl); k_whole; walk_at "ie"; (try k_fold)))

local macro_rules | `(tactic| walk_at "call ref") => `(tactic| (k_here; (with_reducible show wpAny _ _ (call (Value.ref 108) [_]) _ _ _); (with_reducible rename Fr _ _ _ _ => kF); k_dflt (refine' c_light (by assumption) kF (by assumption) (by k_asm) (by assumption) (by rfl) (by ktr_room) (by assumption) ?_); walk_at "ie"))
local macro_rules | `(tactic| walk_at "call ref") => `(tactic| (k_here; (with_reducible show wpAny _ _ (call (Value.ref 70) _ _) _ _ _); (with_reducible rename Fr _ _ _ _ => kF); k_dflt (refine' c_bis4 (by assumption) kF (by assumption) (by k_asm) (by assumption) (by rfl) (by ktr_room) (by assumption) (by assumption) (by assumption) (by assumption) ?_); walk_at "ie"))
local macro_rules | `(tactic| walk_at "getMethod ref") => `(tactic| (k_here; (with_reducible show wpAny _ _ (getMethod (Value.ref _) (PySem.Str.ofString "insert") _) _ _ _); k_dflt (refine' kl_method (by k_asm) (by assumption) PySem.F.slot_list_insert PySem.F.type_list_insert ?_)))
local macro_rules | `(tactic| walk_at "call builtin:list.insert") => `(tactic| (k_here; k_dflt (refine' ins_led (by k_asm) (by k_asm) (by assumption) (by assumption) (by assumption) ?_); walk_at "ie"))
section
variable {w : World} {mean : ExcName → Option Value} {mg mb : Str → Option Value} {dp un : Nat} {gd : Option (List Code)} {cn : Str} {cs : Scope} {a : Addr} {ccd : Value} {cl : List (Str × Addr)} {outer : List Env} {A₀ : Around} {base h₀ : Heap} {L : Addr} {m : Str → Option Value} {news : List (Addr × Obj)} {s : Shared} {Q E : Value → Shared → Prop}
set_option maxRecDepth 100000
set_option maxHeartbeats 8000000

theorem c_ins {S : Addr} {vs : List Value} {nS : Nat} {v : Value} {l : UInt64} {ls : List UInt64} {news' : List (Addr × Obj)} (B : Below A₀ base outer h₀) (F : Fr h₀ L s.heap m) (X : (Mine.hd.heap_39 w.params).In h₀) (N : News h₀ L s.heap news) (T : Top Mine.hd.view_39 looseL mean mg mb h₀) (hk : cs.kind = .function) (hd : dp + 20 < recursionLimit)
    (hz : vs.length ≤ 100) (hl : LampAt news v l) (hL : Lamps news vs ls) (mono : ∀ (i j : Nat) li lj, i ≤ j → ls[i]? = some li → ls[j]? = some lj → ltF l li = true → ltF l lj = true)
    (U : Upd S (listOf vs.toArray nS) (listOf (insAt vs (ls.findIdx (ltF l)) v).toArray (nS + 1)) news news')
    (hret : ∀ h' tk, Fr h₀ L h' m → News h₀ L h' news' → Q .none { s with heap := h', toks := tk }) :
    wpAny (model Challenge.rw_sc0061_01.row.prog w) (ktrTop dp un gd cn cs L a ccd cl outer) (call (.ref 61) [.ref S, v] [(Str.ofString "key", .ref 108)]) Q E s := by
  have hm := Mine.Upd.mem U
  have hp : ls.findIdx (ltF l) ≤ vs.length := by rw [← hL.1]; exact List.findIdx_le_length
  revert X
  k_fill
  intro X
  refine wpAny_call ?_
  k_dflt (walk_at "enterD")
  walk_at "go"
  exact hret _ _ (by assumption) (by assumption)
end
end
section
open PySem PySem.W PyProof.Rows
open PySem.Sre
def code1 : Array Nat := #[14, 4, 0, 1, 1, 6, 1, 16, 46, 1]
def code2 : Array Nat := #[14, 9, 4, 1, 2, 16, 10, 16, 13, 0, 7, 7, 16, 13, 16, 10, 15, 18, 5, 16, 10, 15, 13, 11, 16, 13, 5, 5, 0, 16, 10, 1, 15, 2, 0, 1]
theorem runFor_add (a b : Nat) (m : M) : M.runFor (a + b) m = M.runFor b (M.runFor a m) := by
  induction a generalizing m with
  | zero => simp [M.runFor]
  | succ a ih =>
    rw [Nat.succ_add]
    show (if m.outcome.isSome then m else M.runFor (a + b) m.step) = M.runFor b (if m.outcome.isSome then m else M.runFor a m.step)
    by_cases h : m.outcome.isSome = true
    · rw [if_pos h, if_pos h]
      cases b with
      | zero => rfl
      | succ b => show m = (if m.outcome.isSome then m else _); rw [if_pos h]
    · rw [if_neg h, if_neg h]; exact ih _
theorem runFor_done {m : M} (h : m.outcome.isSome = true) (k : Nat) : M.runFor k m = m := by
  cases k with
  | zero => rfl
  | succ k => show (if m.outcome.isSome then m else _) = m; rw [if_pos h]
theorem runFor_step {m : M} (h : m.outcome = none) (k : Nat) : M.runFor (k + 1) m = M.runFor k m.step := by
  show (if m.outcome.isSome then m else _) = _
  rw [h]; rfl
/-- the search's end -/
def Ends (m : M) (b : Nat) (P : M → Prop) : Prop := ∃ k, k ≤ b ∧ (M.runFor k m).outcome.isSome = true ∧ P (M.runFor k m)
theorem Ends.step {m : M} {b : Nat} {P : M → Prop} (h : m.outcome = none) (e : Ends m.step b P) : Ends m (b + 1) P := by
  obtain ⟨k, h1, h2, h3⟩ := e
  exact ⟨k + 1, Nat.succ_le_succ h1, by rw [runFor_step h]; exact h2, by rw [runFor_step h]; exact h3⟩
theorem Ends.now {m : M} {b : Nat} {P : M → Prop} (h : m.outcome.isSome = true) (p : P m) : Ends m b P := ⟨0, Nat.zero_le _, h, p⟩
theorem Ends.le {m : M} {b b' : Nat} {P : M → Prop} (e : Ends m b P) (h : b ≤ b') : Ends m b' P := let ⟨k, h1, h2⟩ := e; ⟨k, Nat.le_trans h1 h, h2⟩
/-- a state -/
def mk (code text : Array Nat) (start pc pos handed : Nat) (must out : Bool) (fs : List Sre.Frame) (wt : Nat) (ans : Option Bool) (sn : Sre.Seen) (oc : Option Sre.Outcome) : M :=
  { code := code, text, lim := text.size, start := start, lastStart := text.size, wholeText := false, mustAdvance := must, pc := pc, pos := pos, handed := handed, outermost := out, marks := #[], lastmark := -1, lastindex := -1, loops := #[], inner := none,
    frames := fs, weight := wt, answer := ans, seen := sn, outcome := oc }
/-- from the state m the step leads to a state like m', whatever it has seen -/
def Go (m : M) (f : Sre.Seen → M) : Prop := m.outcome = none ∧ ∃ sn, m.step = f sn
theorem Go.ends {m : M} {f : Sre.Seen → M} {b : Nat} {P : M → Prop} (g : Go m f) (h : ∀ sn, Ends (f sn) b P) : Ends m (b + 1) P := by
  obtain ⟨h0, sn, e⟩ := g
  exact Ends.step h0 (by rw [e]; exact h sn)
def bol (text : Array Nat) (s : Nat) : Bool := s == 0 || text.getD (s - 1) 0 == 10
theorem ite_t {α : Type} {c : Bool} {x y : α} (h : c = true) : (if c = true then x else y) = x := by rw [h]; rfl
theorem ite_f {α : Type} {c : Bool} {x y : α} (h : c = false) : (if c = true then x else y) = y := by rw [h]; rfl
section
variable {text : Array Nat} {st s hd : Nat} {must out : Bool} {fs : List Sre.Frame} {wt : Nat} {sn : Sre.Seen} {P : M → Prop} {b : Nat}
theorem lit_yes_code1_7 (h : s < text.size) (q : (text.getD s 0 == 46) = true) : Go (mk code1 text st 7 s hd must out fs wt none sn none) fun sn => mk code1 text st 9 (s + 1) hd must out fs wt none sn none := by
  refine ⟨rfl, sn.add 16, (if_neg (Nat.not_le.mpr h) : (if s ≥ text.size then _ else _) = _).trans ?_⟩
  show (match (Except.ok ((text.getD s 0 == 46), _) : Except String (Bool × Sre.Seen)) with | .error why => _ | .ok (false, seen) => _ | .ok (true, seen) => _) = _
  rw [q]; rfl
theorem lit_no_code1_7 (q : s < text.size → (text.getD s 0 == 46) = false) : Go (mk code1 text st 7 s hd must out fs wt none sn none) fun sn => mk code1 text st 7 s hd must out fs wt (some false) sn none := by
  by_cases h : s < text.size
  · refine ⟨rfl, sn.add 16, (if_neg (Nat.not_le.mpr h) : (if s ≥ text.size then _ else _) = _).trans ?_⟩
    show (match (Except.ok ((text.getD s 0 == 46), _) : Except String (Bool × Sre.Seen)) with | .error why => _ | .ok (false, seen) => _ | .ok (true, seen) => _) = _
    rw [q h]; rfl
  · exact ⟨rfl, sn.add 16, (if_pos (Nat.not_lt.mp h) : (if s ≥ text.size then _ else _) = _)⟩
theorem lit_yes_code2_12 (h : s < text.size) (q : (text.getD s 0 == 13) = true) : Go (mk code2 text st 12 s hd must out fs wt none sn none) fun sn => mk code2 text st 14 (s + 1) hd must out fs wt none sn none := by
  refine ⟨rfl, sn.add 16, (if_neg (Nat.not_le.mpr h) : (if s ≥ text.size then _ else _) = _).trans ?_⟩
  show (match (Except.ok ((text.getD s 0 == 13), _) : Except String (Bool × Sre.Seen)) with | .error why => _ | .ok (false, seen) => _ | .ok (true, seen) => _) = _
  rw [q]; rfl
theorem lit_no_code2_12 (q : s < text.size → (text.getD s 0 == 13) = false) : Go (mk code2 text st 12 s hd must out fs wt none sn none) fun sn => mk code2 text st 12 s hd must out fs wt (some false) sn none := by
  by_cases h : s < text.size
  · refine ⟨rfl, sn.add 16, (if_neg (Nat.not_le.mpr h) : (if s ≥ text.size then _ else _) = _).trans ?_⟩
    show (match (Except.ok ((text.getD s 0 == 13), _) : Except String (Bool × Sre.Seen)) with | .error why => _ | .ok (false, seen) => _ | .ok (true, seen) => _) = _
    rw [q h]; rfl
  · exact ⟨rfl, sn.add 16, (if_pos (Nat.not_lt.mp h) : (if s ≥ text.size then _ else _) = _)⟩
theorem lit_yes_code2_14 (h : s < text.size) (q : (text.getD s 0 == 10) = true) : Go (mk code2 text st 14 s hd must out fs wt none sn none) fun sn => mk code2 text st 16 (s + 1) hd must out fs wt none sn none := by
  refine ⟨rfl, sn.add 16, (if_neg (Nat.not_le.mpr h) : (if s ≥ text.size then _ else _) = _).trans ?_⟩
  show (match (Except.ok ((text.getD s 0 == 10), _) : Except String (Bool × Sre.Seen)) with | .error why => _ | .ok (false, seen) => _ | .ok (true, seen) => _) = _
  rw [q]; rfl
theorem lit_no_code2_14 (q : s < text.size → (text.getD s 0 == 10) = false) : Go (mk code2 text st 14 s hd must out fs wt none sn none) fun sn => mk code2 text st 14 s hd must out fs wt (some false) sn none := by
  by_cases h : s < text.size
  · refine ⟨rfl, sn.add 16, (if_neg (Nat.not_le.mpr h) : (if s ≥ text.size then _ else _) = _).trans ?_⟩
    show (match (Except.ok ((text.getD s 0 == 10), _) : Except String (Bool × Sre.Seen)) with | .error why => _ | .ok (false, seen) => _ | .ok (true, seen) => _) = _
    rw [q h]; rfl
  · exact ⟨rfl, sn.add 16, (if_pos (Nat.not_lt.mp h) : (if s ≥ text.size then _ else _) = _)⟩
theorem lit_yes_code2_19 (h : s < text.size) (q : (text.getD s 0 == 10) = true) : Go (mk code2 text st 19 s hd must out fs wt none sn none) fun sn => mk code2 text st 21 (s + 1) hd must out fs wt none sn none := by
  refine ⟨rfl, sn.add 16, (if_neg (Nat.not_le.mpr h) : (if s ≥ text.size then _ else _) = _).trans ?_⟩
  show (match (Except.ok ((text.getD s 0 == 10), _) : Except String (Bool × Sre.Seen)) with | .error why => _ | .ok (false, seen) => _ | .ok (true, seen) => _) = _
  rw [q]; rfl
theorem lit_no_code2_19 (q : s < text.size → (text.getD s 0 == 10) = false) : Go (mk code2 text st 19 s hd must out fs wt none sn none) fun sn => mk code2 text st 19 s hd must out fs wt (some false) sn none := by
  by_cases h : s < text.size
  · refine ⟨rfl, sn.add 16, (if_neg (Nat.not_le.mpr h) : (if s ≥ text.size then _ else _) = _).trans ?_⟩
    show (match (Except.ok ((text.getD s 0 == 10), _) : Except String (Bool × Sre.Seen)) with | .error why => _ | .ok (false, seen) => _ | .ok (true, seen) => _) = _
    rw [q h]; rfl
  · exact ⟨rfl, sn.add 16, (if_pos (Nat.not_lt.mp h) : (if s ≥ text.size then _ else _) = _)⟩
theorem lit_yes_code2_24 (h : s < text.size) (q : (text.getD s 0 == 13) = true) : Go (mk code2 text st 24 s hd must out fs wt none sn none) fun sn => mk code2 text st 26 (s + 1) hd must out fs wt none sn none := by
  refine ⟨rfl, sn.add 16, (if_neg (Nat.not_le.mpr h) : (if s ≥ text.size then _ else _) = _).trans ?_⟩
  show (match (Except.ok ((text.getD s 0 == 13), _) : Except String (Bool × Sre.Seen)) with | .error why => _ | .ok (false, seen) => _ | .ok (true, seen) => _) = _
  rw [q]; rfl
theorem lit_no_code2_24 (q : s < text.size → (text.getD s 0 == 13) = false) : Go (mk code2 text st 24 s hd must out fs wt none sn none) fun sn => mk code2 text st 24 s hd must out fs wt (some false) sn none := by
  by_cases h : s < text.size
  · refine ⟨rfl, sn.add 16, (if_neg (Nat.not_le.mpr h) : (if s ≥ text.size then _ else _) = _).trans ?_⟩
    show (match (Except.ok ((text.getD s 0 == 13), _) : Except String (Bool × Sre.Seen)) with | .error why => _ | .ok (false, seen) => _ | .ok (true, seen) => _) = _
    rw [q h]; rfl
  · exact ⟨rfl, sn.add 16, (if_pos (Nat.not_lt.mp h) : (if s ≥ text.size then _ else _) = _)⟩
theorem lit_yes_code2_29 (h : s < text.size) (q : (text.getD s 0 == 10) = true) : Go (mk code2 text st 29 s hd must out fs wt none sn none) fun sn => mk code2 text st 31 (s + 1) hd must out fs wt none sn none := by
  refine ⟨rfl, sn.add 16, (if_neg (Nat.not_le.mpr h) : (if s ≥ text.size then _ else _) = _).trans ?_⟩
  show (match (Except.ok ((text.getD s 0 == 10), _) : Except String (Bool × Sre.Seen)) with | .error why => _ | .ok (false, seen) => _ | .ok (true, seen) => _) = _
  rw [q]; rfl
theorem lit_no_code2_29 (q : s < text.size → (text.getD s 0 == 10) = false) : Go (mk code2 text st 29 s hd must out fs wt none sn none) fun sn => mk code2 text st 29 s hd must out fs wt (some false) sn none := by
  by_cases h : s < text.size
  · refine ⟨rfl, sn.add 16, (if_neg (Nat.not_le.mpr h) : (if s ≥ text.size then _ else _) = _).trans ?_⟩
    show (match (Except.ok ((text.getD s 0 == 10), _) : Except String (Bool × Sre.Seen)) with | .error why => _ | .ok (false, seen) => _ | .ok (true, seen) => _) = _
    rw [q h]; rfl
  · exact ⟨rfl, sn.add 16, (if_pos (Nat.not_lt.mp h) : (if s ≥ text.size then _ else _) = _)⟩
theorem jump_16 : Go (mk code2 text st 16 s hd must out fs wt none sn none) fun sn => mk code2 text st 35 s hd must out fs wt none sn none := ⟨rfl, sn.add 15, rfl⟩
theorem jump_21 : Go (mk code2 text st 21 s hd must out fs wt none sn none) fun sn => mk code2 text st 35 s hd must out fs wt none sn none := ⟨rfl, sn.add 15, rfl⟩
theorem jump_32 : Go (mk code2 text st 32 s hd must out fs wt none sn none) fun sn => mk code2 text st 35 s hd must out fs wt none sn none := ⟨rfl, sn.add 15, rfl⟩
theorem bol_no (h : bol text s = false) : Go (mk code1 text st 5 s hd must out fs wt none sn none) fun sn => mk code1 text st 5 s hd must out fs wt (some false) sn none :=
  ⟨rfl, (sn.add 6).add 44, (ite_f h : (if bol text s = true then _ else _) = _)⟩
theorem bol_yes (h : bol text s = true) : Go (mk code1 text st 5 s hd must out fs wt none sn none) fun sn => mk code1 text st 7 s hd must out fs wt none sn none :=
  ⟨rfl, (sn.add 6).add 44, (ite_t h : (if bol text s = true then _ else _) = _)⟩
theorem last {code : Array Nat} {pc : Nat} {yes : Bool} : (mk code text st pc s hd must out [] wt (some yes) sn none).step = mk code text st pc s hd must out [] wt (some yes) sn (some (if yes then .matched else .failed)) := rfl
theorem ends_last {code : Array Nat} {pc : Nat} {yes : Bool} (p : P (mk code text st pc s hd must out [] wt (some yes) sn (some (if yes then .matched else .failed)))) : Ends (mk code text st pc s hd must out [] wt (some yes) sn none) 1 P :=
  Ends.step rfl (by rw [last]; exact Ends.now rfl p)
theorem succ_code1_9 (h : (out && (must && s == st)) = false) : Go (mk code1 text st 9 s hd must out fs wt none sn none) fun sn => mk code1 text st 9 s s must out fs wt (some true) sn none := by
  refine ⟨rfl, sn.add 1, ?_⟩
  show (if (out && ((false && s != text.size) || (must && s == st))) = true then _ else _) = _
  rw [Bool.false_and, Bool.false_or, h]; rfl
theorem succ_code2_35 (h : (out && (must && s == st)) = false) : Go (mk code2 text st 35 s hd must out fs wt none sn none) fun sn => mk code2 text st 35 s s must out fs wt (some true) sn none := by
  refine ⟨rfl, sn.add 1, ?_⟩
  show (if (out && ((false && s != text.size) || (must && s == st))) = true then _ else _) = _
  rw [Bool.false_and, Bool.false_or, h]; rfl
def fr1 (s : Nat) (first : Bool) : Sre.Frame := { wait := .nextStart, pc := 5, pos := s, outermost := first }
def at1 (text : Array Nat) (s : Nat) (first must : Bool) (sn : Sre.Seen) : M := mk code1 text s 5 s s must first [fr1 s first] 1 none sn none
theorem res1_yes {pc f0 : Nat} {first o : Bool} : Go (mk code1 text st pc s hd must o [fr1 f0 first] 1 (some true) sn none) fun sn => mk code1 text st 5 f0 hd must first [] 0 (some true) sn none := ⟨rfl, sn, rfl⟩
theorem res1_end {pc f0 : Nat} {first o : Bool} (h : ¬ f0 < text.size) : Go (mk code1 text st pc s hd must o [fr1 f0 first] 1 (some false) sn none) fun sn => mk code1 text st 5 f0 hd must first [] 0 (some false) sn none :=
  ⟨rfl, sn, (if_neg h : (if f0 < text.size then _ else _) = _)⟩
theorem res1_more {pc f0 : Nat} {first o : Bool} (h : f0 < text.size) : Go (mk code1 text st pc s hd must o [fr1 f0 first] 1 (some false) sn none) fun sn => mk code1 text (f0 + 1) 5 (f0 + 1) (f0 + 1) false false [fr1 (f0 + 1) false] 1 none sn none :=
  ⟨rfl, sn, (if_pos h : (if f0 < text.size then _ else _) = _)⟩
end
end
section
open PySem PySem.W PyProof.Rows
open PySem.Sre
/-- what the search says: where it begins and ends -/
def Says (r : Option (Nat × Nat)) (m : M) : Prop :=
  match r with
  | some (a, e) => m.outcome = some .matched ∧ m.start = a ∧ m.handed = e
  | none => m.outcome = some .failed
def hit1 (text : Array Nat) (s : Nat) : Bool := bol text s && (decide (s < text.size) && text.getD s 0 == 46)
def find1 (text : Array Nat) : Nat → Nat → Option (Nat × Nat)
  | 0, _ => none
  | n + 1, s => if hit1 text s = true then some (s, s + 1) else find1 text n (s + 1)
section
variable {text : Array Nat} {st s hd : Nat} {must out : Bool} {fs : List Sre.Frame} {wt : Nat} {sn : Sre.Seen} {P : M → Prop} {b : Nat}
theorem ends_say {m : M} (h0 : m.outcome = none) (ha : m.answer = some false) (hf : m.frames = []) : Ends m 1 (Says none) := by
  refine Ends.step h0 ?_
  have e : m.step = { m with outcome := some .failed } := by
    unfold M.step
    rw [h0, ha, hf]; rfl
  rw [e]
  exact Ends.now rfl rfl
theorem ends1 : ∀ (n s : Nat) (first must : Bool) (sn : Sre.Seen), s ≤ text.size → text.size + 1 - s = n → Ends (at1 text s first must sn) (4 * n + 4) (Says (find1 text n s)) := by
  intro n
  induction n with
  | zero => intro s _ _ _ h1 h2; lia
  | succ n ih =>
    intro s first must sn h1 h2
    have more : hit1 text s = false → ∀ pc sn, Ends (mk code1 text s pc s s must first [fr1 s first] 1 (some false) sn none) (4 * n + 6) (Says (find1 text (n + 1) s)) := by
      intro hh pc sn
      have e : find1 text (n + 1) s = find1 text n (s + 1) := by show (if _ then _ else _) = _; rw [if_neg (by rw [hh]; exact Bool.false_ne_true)]
      by_cases hs : s < text.size
      · refine Ends.le (Go.ends (res1_more hs) (b := 4 * n + 4) fun sn => ?_) (by lia)
        rw [e]
        exact ih (s + 1) false false sn hs (by lia)
      · refine Ends.le (Go.ends (res1_end hs) (b := 1) fun sn => ends_last ?_) (by lia)
        rw [e]
        have : n = 0 := by lia
        subst this
        rfl
    cases hb : bol text s with
    | false =>
      refine Ends.le (Go.ends (bol_no hb) (b := 4 * n + 6) fun sn => more ?_ _ sn) (by lia)
      unfold hit1; rw [hb]; rfl
    | true =>
      refine Ends.le (Go.ends (bol_yes hb) (b := 4 * n + 7) fun sn => ?_) (by lia)
      cases hl : (decide (s < text.size) && text.getD s 0 == 46) with
      | false =>
        refine Go.ends (lit_no_code1_7 fun hs => ?_) (b := 4 * n + 6) fun sn => more ?_ _ sn
        · simpa [hs] using hl
        · unfold hit1; rw [hl]; simp
      | true =>
        rw [Bool.and_eq_true, decide_eq_true_eq] at hl
        refine Ends.le (Go.ends (lit_yes_code1_7 hl.1 hl.2) (b := 3) fun sn => ?_) (by lia)
        refine Go.ends (succ_code1_9 (by simp)) (b := 2) fun sn => ?_
        refine Go.ends res1_yes (b := 1) fun sn => ends_last ?_
        have : hit1 text s = true := by unfold hit1; rw [hb, hl.2]; simp [hl.1]
        show Says (if hit1 text s = true then _ else _) _
        rw [if_pos this]
        exact ⟨rfl, rfl, rfl⟩
theorem search1 {pos : Nat} {must : Bool} (h : pos ≤ text.size) : Ends (Sre.forSearch code1 text 0 pos text.size must) (4 * (text.size + 1 - pos) + 4) (Says (find1 text (text.size + 1 - pos) pos)) := by
  by_cases h0 : pos < text.size
  · have e : Sre.forSearch code1 text 0 pos text.size must = at1 text pos true must (({} : Sre.Seen).add 14) := by
      refine (if_neg ?_ : (if (decide (pos > text.size) || decide (text.size - pos < 1)) = true then _ else _) = _).trans rfl
      simp; lia
    rw [e]
    exact ends1 _ _ _ _ _ h rfl
  · have e : Sre.forSearch code1 text 0 pos text.size must = M.say _ false := (if_pos (by simp; lia) : (if (decide (pos > text.size) || decide (text.size - pos < 1)) = true then _ else _) = _)
    rw [e]
    have q : find1 text (text.size + 1 - pos) pos = none := by
      have e1 : text.size + 1 - pos = 1 := by lia
      rw [e1]
      show (if hit1 text pos = true then _ else find1 text 0 (pos + 1)) = _
      rw [if_neg (by unfold hit1; simp [h0])]
      rfl
    rw [q]
    exact Ends.le (ends_say rfl rfl rfl) (by lia)
/-! the second pattern -/
def fr2 (s : Nat) (first : Bool) : Sre.Frame := { wait := .nextStart, pc := 10, pos := s, outermost := first }
def frB (pc s : Nat) (first : Bool) : Sre.Frame := { wait := .nextBranch, pc := pc, pos := s, outermost := first, kept := { lastmark := -1, lastindex := -1, whole := false, marks := #[] } }
def frN (s : Nat) (first : Bool) : Sre.Frame := { wait := .lookNot, pc := 26, pos := s, outermost := first, kept := { lastmark := -1, lastindex := -1, whole := false, marks := #[] } }
def at2 (text : Array Nat) (s : Nat) (first : Bool) (sn : Sre.Seen) : M := mk code2 text s 10 s s false first [fr2 s first] 1 none sn none
theorem b_branch {out : Bool} : Go (mk code2 text st 10 s hd must out fs 1 none sn none) fun sn => mk code2 text st 12 s s must out (frB 11 s out :: fs) 2 none sn none := ⟨rfl, sn.add 7, rfl⟩
theorem b_alt2 {pc : Nat} {o first : Bool} : Go (mk code2 text st pc s hd must o (frB 11 st first :: fs) 2 (some false) sn none) fun sn => mk code2 text st 19 st st must first (frB 18 st first :: fs) 2 none sn none := ⟨rfl, sn, rfl⟩
theorem b_alt3 {pc : Nat} {o first : Bool} : Go (mk code2 text st pc s hd must o (frB 18 st first :: fs) 2 (some false) sn none) fun sn => mk code2 text st 24 st st must first (frB 23 st first :: fs) 2 none sn none := ⟨rfl, sn, rfl⟩
theorem b_yes {pc k f0 : Nat} {o first : Bool} : Go (mk code2 text st pc s hd must o (frB k f0 first :: fs) 2 (some true) sn none) fun sn => mk code2 text st k f0 hd must first fs 1 (some true) sn none := ⟨rfl, sn, rfl⟩
theorem b_not : Go (mk code2 text st 26 s hd must out fs 2 none sn none) fun sn => mk code2 text st 29 s s must false (frN s out :: fs) 3 none sn none := ⟨rfl, sn.add 5, rfl⟩
theorem b_notno {pc f0 : Nat} {o first : Bool} : Go (mk code2 text st pc s hd must o (frN f0 first :: fs) 3 (some false) sn none) fun sn => mk code2 text st 32 f0 hd must first fs 2 none sn none := ⟨rfl, sn, rfl⟩
theorem res2_yes {pc f0 : Nat} {first o : Bool} : Go (mk code2 text st pc s hd must o [fr2 f0 first] 1 (some true) sn none) fun sn => mk code2 text st 10 f0 hd must first [] 0 (some true) sn none := ⟨rfl, sn, rfl⟩
def isEnd (c : Nat) : Bool := c == 10 || c == 13
def endLen (text : Array Nat) (s : Nat) : Nat := if text.getD s 0 == 13 && (decide (s + 1 < text.size) && text.getD (s + 1) 0 == 10) then 2 else 1
theorem ends2 {first : Bool} (h : s < text.size) (hc : isEnd (text.getD s 0) = true) : Ends (at2 text s first sn) 20 (Says (some (s, s + endLen text s))) := by
  refine Ends.le (Go.ends b_branch (b := 19) fun sn => ?_) (by lia)
  cases h13 : (text.getD s 0 == 13) with
  | true =>
    have n10 : (text.getD s 0 == 10) = false := by
      have := beq_iff_eq.mp h13
      rw [this]; rfl
    refine Ends.le (Go.ends (lit_yes_code2_12 h h13) (b := 18) fun sn => ?_) (by lia)
    cases h10 : (decide (s + 1 < text.size) && text.getD (s + 1) 0 == 10) with
    | true =>
      rw [Bool.and_eq_true, decide_eq_true_eq] at h10
      refine Ends.le (Go.ends (lit_yes_code2_14 h10.1 h10.2) (b := 5) fun sn => ?_) (by lia)
      refine Go.ends jump_16 (b := 4) fun sn => ?_
      refine Go.ends (succ_code2_35 (by simp)) (b := 3) fun sn => ?_
      refine Go.ends b_yes (b := 2) fun sn => ?_
      refine Go.ends res2_yes (b := 1) fun sn => ends_last ?_
      refine ⟨rfl, rfl, ?_⟩
      unfold endLen; rw [h13, h10.2]; simp [h10.1]; rfl
    | false =>
      have hno : s + 1 < text.size → (text.getD (s + 1) 0 == 10) = false := fun q => by simpa [q] using h10
      refine Ends.le (Go.ends (lit_no_code2_14 hno) (b := 13) fun sn => ?_) (by lia)
      refine Go.ends b_alt2 (b := 12) fun sn => ?_
      refine Go.ends (lit_no_code2_19 fun _ => n10) (b := 11) fun sn => ?_
      refine Go.ends b_alt3 (b := 10) fun sn => ?_
      refine Go.ends (lit_yes_code2_24 h h13) (b := 9) fun sn => ?_
      refine Go.ends b_not (b := 8) fun sn => ?_
      refine Go.ends (lit_no_code2_29 hno) (b := 7) fun sn => ?_
      refine Go.ends b_notno (b := 6) fun sn => ?_
      refine Ends.le (Go.ends jump_32 (b := 4) fun sn => ?_) (by lia)
      refine Go.ends (succ_code2_35 (by simp)) (b := 3) fun sn => ?_
      refine Go.ends b_yes (b := 2) fun sn => ?_
      refine Go.ends res2_yes (b := 1) fun sn => ends_last ?_
      refine ⟨rfl, rfl, ?_⟩
      unfold endLen; rw [h13, h10]; simp; rfl
  | false =>
    have h10 : (text.getD s 0 == 10) = true := by
      unfold isEnd at hc; rw [h13, Bool.or_false] at hc; exact hc
    refine Ends.le (Go.ends (lit_no_code2_12 fun _ => h13) (b := 8) fun sn => ?_) (by lia)
    refine Go.ends b_alt2 (b := 7) fun sn => ?_
    refine Ends.le (Go.ends (lit_yes_code2_19 h h10) (b := 5) fun sn => ?_) (by lia)
    refine Go.ends jump_21 (b := 4) fun sn => ?_
    refine Go.ends (succ_code2_35 (by simp)) (b := 3) fun sn => ?_
    refine Go.ends b_yes (b := 2) fun sn => ?_
    refine Go.ends res2_yes (b := 1) fun sn => ends_last ?_
    refine ⟨rfl, rfl, ?_⟩
    unfold endLen; rw [h13]; simp; rfl
def find2 (text : Array Nat) : Nat → Nat → Option (Nat × Nat)
  | 0, _ => none
  | n + 1, s => if s ≥ text.size then none else if isEnd (text.getD s 0) = true then some (s, s + endLen text s) else find2 text n (s + 1)
theorem inset2 (c : Nat) (sn : Sre.Seen) : ∃ sn', inSet code2 c 36 5 true sn = .ok (isEnd c, sn') := by
  cases h : (c == 10) with
  | true =>
    refine ⟨sn.add 16, ?_⟩
    show (if (c == 10) = true then (Except.ok (true, sn.add 16) : Except String (Bool × Sre.Seen)) else _) = _
    rw [if_pos h]; unfold isEnd; rw [h]; rfl
  | false =>
    cases h2 : (c == 13) with
    | true =>
      refine ⟨(sn.add 16).add 16, ?_⟩
      show (if (c == 10) = true then (Except.ok (true, sn.add 16) : Except String (Bool × Sre.Seen)) else if (c == 13) = true then (Except.ok (true, (sn.add 16).add 16) : Except String (Bool × Sre.Seen)) else _) = _
      rw [if_neg (by rw [h]; exact Bool.false_ne_true), if_pos h2]; unfold isEnd; rw [h, h2]; rfl
    | false =>
      refine ⟨((sn.add 16).add 16).add 0, ?_⟩
      show (if (c == 10) = true then (Except.ok (true, sn.add 16) : Except String (Bool × Sre.Seen)) else if (c == 13) = true then (Except.ok (true, (sn.add 16).add 16) : Except String (Bool × Sre.Seen)) else (Except.ok (false, ((sn.add 16).add 16).add 0) : Except String (Bool × Sre.Seen))) = _
      rw [if_neg (by rw [h]; exact Bool.false_ne_true), if_neg (by rw [h2]; exact Bool.false_ne_true)]; unfold isEnd; rw [h, h2]; rfl
theorem adm2 {m : M} (hc : m.code = code2) (ht : m.text = text) (hl : m.lim = text.size) : ∀ (n s : Nat) (sn : Sre.Seen), ∃ sn', M.admitted m n s sn = .ok ((find2 text n s).map (·.1), sn') := by
  intro n
  induction n with
  | zero => exact fun s sn => ⟨sn, rfl⟩
  | succ n ih =>
    intro s sn
    by_cases h : s ≥ text.size
    · refine ⟨sn, ?_⟩
      show (if s ≥ m.lim then (Except.ok (none, sn) : Except String (Option Nat × Sre.Seen)) else _) = Except.ok (Option.map (fun p : Nat × Nat => p.1) (if s ≥ text.size then none else if isEnd (text.getD s 0) = true then some (s, s + endLen text s) else find2 text n (s + 1)), sn)
      rw [hl, if_pos h, if_pos h]; rfl
    · obtain ⟨sn1, e1⟩ := inset2 (text.getD s 0) sn
      have e0 : inSet m.code (m.text.getD s 0) m.code.size 5 true sn = .ok (isEnd (text.getD s 0), sn1) := by rw [hc, ht]; exact e1
      cases hi : isEnd (text.getD s 0) with
      | true =>
        refine ⟨sn1, ?_⟩
        show (if s ≥ m.lim then _ else match inSet m.code (m.text.getD s 0) m.code.size 5 true sn with | .ok (true, seen) => (Except.ok (some s, seen) : Except String (Option Nat × Sre.Seen)) | .ok (false, seen) => M.admitted m n (s + 1) seen | .error why => .error why) = Except.ok (Option.map (·.1) (if s ≥ text.size then none else if isEnd (text.getD s 0) = true then some (s, s + endLen text s) else find2 text n (s + 1)), sn1)
        rw [e0, hl, if_neg h, if_neg h, hi]; rfl
      | false =>
        obtain ⟨sn2, e2⟩ := ih (s + 1) sn1
        refine ⟨sn2, ?_⟩
        show (if s ≥ m.lim then _ else match inSet m.code (m.text.getD s 0) m.code.size 5 true sn with | .ok (true, seen) => (Except.ok (some s, seen) : Except String (Option Nat × Sre.Seen)) | .ok (false, seen) => M.admitted m n (s + 1) seen | .error why => .error why) = Except.ok (Option.map (·.1) (if s ≥ text.size then none else if isEnd (text.getD s 0) = true then some (s, s + endLen text s) else find2 text n (s + 1)), sn2)
        rw [e0, hl, if_neg h, if_neg h, hi]
        exact e2
theorem find2_some : ∀ (n s a e : Nat), find2 text n s = some (a, e) → a < text.size ∧ isEnd (text.getD a 0) = true ∧ e = a + endLen text a ∧ s ≤ a := by
  intro n
  induction n with
  | zero => intro s a e h; cases h
  | succ n ih =>
    intro s a e h
    unfold find2 at h
    by_cases hs : s ≥ text.size
    · rw [if_pos hs] at h; cases h
    · rw [if_neg hs] at h
      by_cases hi : isEnd (text.getD s 0) = true
      · rw [if_pos hi] at h
        cases h
        exact ⟨Nat.not_le.mp hs, hi, rfl, Nat.le_refl _⟩
      · rw [if_neg hi] at h
        obtain ⟨h1, h2, h3, h4⟩ := ih _ _ _ h
        exact ⟨h1, h2, h3, by lia⟩
theorem search2 {pos : Nat} {must : Bool} (h : pos ≤ text.size) : Ends (Sre.forSearch code2 text 0 pos text.size must) 30 (Says (find2 text (text.size + 1 - pos) pos)) := by
  by_cases h0 : pos < text.size
  · let M0 : M := { code := code2, text := text, lim := text.size, start := pos, lastStart := text.size, pc := 10, pos := pos, handed := pos, marks := #[], mustAdvance := must, seen := ({} : Sre.Seen).add 14 }
    have e : Sre.forSearch code2 text 0 pos text.size must = M.attemptFrom M0 pos true := by
      refine (if_neg ?_ : (if (decide (pos > text.size) || decide (text.size - pos < 1)) = true then _ else _) = _).trans rfl
      simp; lia
    rw [e]
    obtain ⟨sn, e2⟩ := adm2 (m := M0) rfl rfl rfl (text.size + 1 - pos) pos (({} : Sre.Seen).add 14)
    have e3 : M.attemptFrom M0 pos true = (match (Except.ok ((find2 text (text.size + 1 - pos) pos).map (·.1), sn) : Except String (Option Nat × Sre.Seen)) with
      | .ok (some s, seen) => ({ M0 with mustAdvance := false, seen := seen } : M).attemptAt s true
      | .ok (none, seen) => ({ M0 with seen := seen } : M).say false
      | .error why => M0.stick why) := by rw [← e2]; rfl
    rw [e3]
    cases hf : find2 text (text.size + 1 - pos) pos with
    | none => exact Ends.le (ends_say rfl rfl rfl) (by lia)
    | some p =>
      obtain ⟨a, e'⟩ := p
      obtain ⟨h1, h2, h3, _⟩ := find2_some _ _ _ _ hf
      subst h3
      exact Ends.le (ends2 h1 h2) (by lia)
  · have e : Sre.forSearch code2 text 0 pos text.size must = M.say _ false := (if_pos (by simp; lia) : (if (decide (pos > text.size) || decide (text.size - pos < 1)) = true then _ else _) = _)
    rw [e]
    have q : find2 text (text.size + 1 - pos) pos = none := by
      have e1 : text.size + 1 - pos = 1 := by lia
      rw [e1]
      show (if pos ≥ text.size then none else _) = _
      rw [if_pos (Nat.not_lt.mp h0)]
    rw [q]
    exact Ends.le (ends_say rfl rfl rfl) (by lia)
end
end
section
open PySem PySem.W PyProof.Rows
open PySem.Sre PySem.Builtin.Re
section
variable {prog : Program} {w : World} {A : Around} {E : Value → Shared → Prop} {s : Shared}
theorem wp_drive : ∀ (turns : Nat) (m : M) (b : Nat) (P : M → Prop) (Q : M → Shared → Prop), Ends m b P → b < 4 * turns → (∀ m', m'.outcome.isSome = true → P m' → Q m' s) → wpAny (model prog w) A (reDrive turns m) Q E s := by
  intro turns
  induction turns with
  | zero => intro m b P Q _ h _; omega
  | succ turns ih =>
    intro m b P Q ⟨k, h1, h2, h3⟩ hb h
    show wpAny _ _ (if (M.runFor 4 m).outcome.isSome = true then pure (M.runFor 4 m) else do rule "sre.turn"; reDrive turns (M.runFor 4 m)) _ _ _
    by_cases hs : (M.runFor 4 m).outcome.isSome = true
    · rw [if_pos hs]
      refine wpAny_pure (h _ hs ?_)
      by_cases hk : k ≤ 4
      · have e : M.runFor 4 m = M.runFor k m := by
          have : 4 = k + (4 - k) := by omega
          rw [this, runFor_add, runFor_done h2]
        rw [e]; exact h3
      · have e : M.runFor k m = M.runFor 4 m := by
          have : k = 4 + (k - 4) := by omega
          rw [this, runFor_add, runFor_done hs]
        rw [← e]; exact h3
    · rw [if_neg hs]
      have hk : 4 < k := by
        refine Nat.not_le.mp fun hk => hs ?_
        have : 4 = k + (4 - k) := by omega
        rw [this, runFor_add, runFor_done h2]; exact h2
      have e : M.runFor k m = M.runFor (k - 4) (M.runFor 4 m) := by
        have : k = 4 + (k - 4) := by omega
        rw [this, runFor_add]; simp
      refine wpAny_bind (wpAny_rule (ih _ (b - 4) P Q ⟨k - 4, by omega, by rw [← e]; exact h2, by rw [← e]; exact h3⟩ (by omega) h))
theorem wp_rules {f : Nat → PUnit → Sem (ForInStep PUnit)} {Q : PUnit → Shared → Prop} (hf : ∀ i (R : ForInStep PUnit → Shared → Prop), R (.yield ⟨⟩) s → wpAny (model prog w) A (f i ⟨⟩) R E s) :
    ∀ l : List Nat, Q ⟨⟩ s → wpAny (model prog w) A (forIn l PUnit.unit f) Q E s := by
  intro l
  induction l with
  | nil => intro h; exact wpAny_pure h
  | cons i l ih =>
    intro h
    rw [List.forIn_cons]
    exact wpAny_bind (hf i _ (ih h))
def OnFound (r : Option (Nat × Nat)) (Q : Option M → Shared → Prop) (s : Shared) : Prop :=
  match r with
  | some (x, y) => ∀ m' : M, m'.start = x → m'.handed = y → Q (some m') s
  | none => Q none s
theorem wp_toEnd {m : M} {b : Nat} {r : Option (Nat × Nat)} {Q : Option M → Shared → Prop} (e : Ends m b (Says r)) (hb : b < 1000000) (h : OnFound r Q s) : wpAny (model prog w) A (reRunToEnd m) Q E s := by
  unfold reRunToEnd
  refine wpAny_bind (wp_drive _ m b _ _ e ?_ fun m' hs hp => ?_)
  · have : (2 : Nat) ^ 64 = 18446744073709551616 := by decide
    omega
  · refine wpAny_bind (wp_rules (fun i R hR => ?_) _ ?_)
    · cases m'.seen.has i with
      | true => exact wpAny_bind (wpAny_rule (wpAny_pure hR))
      | false => exact wpAny_pure hR
    · cases r with
      | none =>
        have e1 : m'.outcome = some .failed := hp
        rw [e1]
        exact wpAny_pure h
      | some p =>
        obtain ⟨x, y⟩ := p
        obtain ⟨e1, e2, e3⟩ : m'.outcome = some .matched ∧ m'.start = x ∧ m'.handed = y := hp
        rw [e1]
        exact wpAny_pure (h m' e2 e3)
/-- the pattern's object -/
def PatAt (h : Heap) (P : Addr) (code : Array Nat) : Prop :=
  ∃ (p0 p1 p3 p4 : Value) (t2 t6 : Tok) (C : Addr) (items : Array Value) (k : Nat), h.get? P = some { cls := .type "re.Pattern", data := .fields #[p0, p1, .int 0 t2, p3, p4, .ref C, .int 0 t6] } ∧ h.get? C = some { cls := .type "tuple", data := .seq items k } ∧ (items.map reRawOf).map (·.toNat) = code
theorem PatAt.keeps {h h' : Heap} {P : Addr} {code : Array Nat} (x : PatAt h P code) (k : ∀ b o, h.get? b = some o → h'.get? b = some o) : PatAt h' P code := by
  obtain ⟨p0, p1, p3, p4, t2, t6, C, items, n, a, b, c⟩ := x
  exact ⟨p0, p1, p3, p4, t2, t6, C, items, n, k _ _ a, k _ _ b, c⟩
def tgt (P : Addr) (x : Str) (u : Tok) (code : Array Nat) : ReTarget := { pattern := .ref P, string := .str x u, code := code, text := x.cps, kind := 0, groups := 0, pos := 0, lim := x.cps.size }
theorem wp_target {P : Addr} {x : Str} {u : Tok} {code : Array Nat} {Q : ReTarget → Shared → Prop} (hp : PatAt s.heap P code) (h : Q (tgt P x u code) s) : wpAny (model prog w) A (reWholeTarget (.ref P) (.str x u)) Q E s := by
  obtain ⟨p0, p1, p3, p4, t2, t6, C, items, n, a, b, rfl⟩ := hp
  unfold reWholeTarget
  refine wpAny_bind (wpAny_bind (wpAny_load a (wpAny_pure ?_)))
  refine wpAny_bind (wpAny_bind (wpAny_pure (wpAny_pure ?_)))
  refine wpAny_bind (wpAny_pure ?_)
  refine wpAny_bind (wpAny_bind (wpAny_bind (wpAny_load b (wpAny_pure (wpAny_pure ?_)))))
  exact wpAny_pure h
end
end
section
open PySem PySem.W PyProof.Rows
open PySem.Sre PySem.Builtin.Re
theorem entry_loop : entryFor table "re.Pattern.sub.loop" = some Builtin.«re.Pattern.sub.loop» := entryFor_of_tree (by kernel_rfl)
theorem plain_loop : plainId "re.Pattern.sub.loop" = true := by decide +kernel
theorem entry_sub : entryFor table "re.Pattern.sub" = some Builtin.«re.Pattern.sub» := entryFor_of_tree (by kernel_rfl)
def PatOff (h : Heap) (P : Addr) (code : Array Nat) (D : Addr) : Prop :=
  ∃ (p0 p1 p3 p4 : Value) (t2 t6 : Tok) (C : Addr) (items : Array Value) (k : Nat), h.get? P = some { cls := .type "re.Pattern", data := .fields #[p0, p1, .int 0 t2, p3, p4, .ref C, .int 0 t6] } ∧ h.get? C = some { cls := .type "tuple", data := .seq items k } ∧ (items.map reRawOf).map (·.toNat) = code ∧ P ≠ D ∧ C ≠ D
theorem PatOff.at {h : Heap} {P D : Addr} {code : Array Nat} (x : PatOff h P code D) : PatAt h P code := by
  obtain ⟨p0, p1, p3, p4, t2, t6, C, items, n, a, b, c, _⟩ := x
  exact ⟨p0, p1, p3, p4, t2, t6, C, items, n, a, b, c⟩
theorem PatOff.keeps {h h' : Heap} {P D : Addr} {code : Array Nat} (x : PatOff h P code D) (k : ∀ b o, b ≠ D → h.get? b = some o → h'.get? b = some o) : PatOff h' P code D := by
  obtain ⟨p0, p1, p3, p4, t2, t6, C, items, n, a, b, c, d, e⟩ := x
  exact ⟨p0, p1, p3, p4, t2, t6, C, items, n, k _ _ d a, k _ _ e b, c, d, e⟩
def sl (x : Str) (a b : Nat) : Str := ⟨x.cps.extract a b⟩
def rest (x rs : Str) (F : Nat → Option (Nat × Nat)) : Nat → Nat → List Str
  | 0, _ => []
  | n + 1, d => match F d with
    | some (a, e) => (if d < a then [sl x d a] else []) ++ rs :: rest x rs F n e
    | none => if d < x.cps.size then [sl x d x.cps.size] else []
section
variable {prog : Program} {w : World} {A : Around} {E : Value → Shared → Prop}
theorem wp_ite_pos {α : Type} {c : Prop} [Decidable c] {t e : Sem α} {Q : α → Shared → Prop} {s : Shared} (hc : c) (h : wpAny (model prog w) A t Q E s) : wpAny (model prog w) A (if c then t else e) Q E s := by rw [if_pos hc]; exact h
theorem wp_ite_neg {α : Type} {c : Prop} [Decidable c] {t e : Sem α} {Q : α → Shared → Prop} {s : Shared} (hc : ¬ c) (h : wpAny (model prog w) A e Q E s) : wpAny (model prog w) A (if c then t else e) Q E s := by rw [if_neg hc]; exact h
theorem wp_push {D : Addr} {vs : List Value} {v : Value} {k : Nat} {s : Shared} {Q : Unit → Shared → Prop} (hD : s.heap.get? D = some { cls := .type "list", data := .seq vs.toArray k }) (hz : vs.length ≤ 100000)
    (h : ∀ h' : Heap, (∀ b o, b ≠ D → s.heap.get? b = some o → h'.get? b = some o) → h'.get? D = some { cls := .type "list", data := .seq (vs ++ [v]).toArray (k + 1) } → Q () { s with heap := h' }) : wpAny (model prog w) A (updateSeq D (fun x => x.push v)) Q E s := by
  refine wpAny_updateSeq hD rfl (h _ (fun b o hb e => (Heap.SameBut.update ..).extBut b o hb e) ?_) (by rw [List.size_toArray, sizeLine_eq]; lia) (by rw [Array.size_push, List.size_toArray, sizeLine_eq]; lia)
  rw [Heap.get?_update_self _ hD (by rw [mapSeq_push]; rfl), mapSeq_push]
  simp
theorem wp_slice {x : Str} {a b : Nat} {s : Shared} {Q : Value → Shared → Prop} (hz : x.cps.size ≤ 1000) (h : ∀ t tk, Q (.str (sl x a b) t) { s with toks := tk }) : wpAny (model prog w) A (reSlice x.cps 0 a b) Q E s := by
  show wpAny _ _ (mkStr ⟨x.cps.extract a b⟩) _ _ _
  refine wpAny_mkStr (h _ _) ?_
  show (x.cps.extract a b).size ≤ _
  rw [sizeLine_eq, Array.size_extract]
  lia
theorem strsAre_snoc : ∀ {vs : List Value} {ps : List Str} (y : Str) (t : Tok), StrsAre vs ps → StrsAre (vs ++ [.str y t]) (ps ++ [y])
  | _, _, y, t, .nil => .cons y t .nil
  | _, _, y, t, .cons z u r => .cons z u (strsAre_snoc y t r)
theorem strsAre_len : ∀ {vs : List Value} {ps : List Str}, StrsAre vs ps → vs.length = ps.length
  | _, _, .nil => rfl
  | _, _, .cons z u r => congrArg Nat.succ (strsAre_len r)
theorem sl_len {x : Str} {a b : Nat} : (sl x a b).length = min b x.cps.size - a := by
  show (x.cps.extract a b).size = _
  rw [Array.size_extract]
theorem wp_loop {code : Array Nat} {x rs : Str} {F : Nat → Option (Nat × Nat)} {P D : Addr} {u rt : Tok} {R : Result → Shared → Prop}
    (hF : ∀ pos must, pos ≤ x.cps.size → ∃ b, b < 1000000 ∧ Ends (Sre.forSearch code x.cps 0 pos x.cps.size must) b (Says (F pos)))
    (hlt : ∀ pos a e, pos ≤ x.cps.size → F pos = some (a, e) → pos ≤ a ∧ a < e ∧ e ≤ x.cps.size) (hz : x.cps.size ≤ 1000) (hr : rs.length ≤ 10) :
    ∀ (n d : Nat), x.cps.size - d < n → d ≤ x.cps.size → ∀ (c : Int) (must : Bool) (vs : List Value) (ps : List Str) (k : Nat) (s : Shared), PatOff s.heap P code D → s.heap.get? D = some { cls := .type "list", data := .seq vs.toArray k } → StrsAre vs ps →
      (ps.map (·.length)).sum ≤ 11 * d → vs.length ≤ 2 * d →
      (∀ h' tk t, (∀ b o, b ≠ D → s.heap.get? b = some o → h'.get? b = some o) → R (.ok (.ret (.str (Txt.join Str.empty (ps ++ rest x rs F n d)) t))) { s with heap := h', toks := tk }) →
      codeAny (model prog w) A (.builtin "re.Pattern.sub.loop" ⟨[.ref P, .str x u, .str rs rt, rawInt 0, rawInt 0, rawInt c, rawInt d, rawInt d, .bool must, .ref D, .bool false], []⟩) R s := by
  intro n
  induction n with
  | zero => intro d h; lia
  | succ n ih =>
    intro d h hd c must vs ps k s hp hD hs hsum hl hR
    obtain ⟨b, hb, hE⟩ := hF d must hd
    refine codeAny_builtin entry_loop ?_
    rw [Around.under_plainId plain_loop _]
    refine wpAny_bind (wp_target hp.at ?_)
    refine wpAny_bind (wpAny_bind (wpAny_pure ?_))
    refine wpAny_pure ?_
    refine wpAny_bind ((wp_toEnd hE hb ?_ : wpAny (model prog w) A.in1 (reRunToEnd (Sre.forSearch code x.cps 0 d x.cps.size must)) _ _ _))
    have fin : ∀ (vs : List Value) (ps : List Str) (k : Nat) (s' : Shared), s'.gens = s.gens → s'.drawn = s.drawn → s'.os = s.os → (∀ b o, b ≠ D → s.heap.get? b = some o → s'.heap.get? b = some o) → s'.heap.get? D = some { cls := .type "list", data := .seq vs.toArray k } → StrsAre vs ps →
        (ps.map (·.length)).sum ≤ 12000 →
        (∀ h' tk t, (∀ b o, b ≠ D → s.heap.get? b = some o → h'.get? b = some o) → R (.ok (.ret (.str (Txt.join Str.empty ps) t))) { s with heap := h', toks := tk }) →
        wpAny (model prog w) A.in1 (reSlice x.cps 0 0 0 >>= fun joiner => seqItems? (.ref D) >>= fun o => if (o.getD #[]).isEmpty = true then ret joiner else call (.builtin "str.join") [joiner, .ref D] >>= fun text => ret text)
          (fun fin s' => match fin with | .done f => R (.ok f) s' | .again c' => c'.quiet = true ∧ codeAny (model prog w) A c' R s') (fun e s' => R (.error e) s') s' := by
      rintro vs ps k ⟨hp', g', d', t', os'⟩ rfl rfl rfl hkeep hD' hs' hsum' hR'
      refine wpAny_bind (wp_slice hz fun t tk => wpAny_bind (wpAny_bind (wpAny_load hD' (wpAny_pure ?_))))
      have e0 : sl x 0 0 = Str.empty := by unfold sl Str.empty; simp
      rw [e0]
      cases hs' with
      | nil => exact wpAny_pure (hR' _ _ _ hkeep)
      | cons y u' r =>
        refine wp_ite_neg (by simp) ?_
        refine wpAny_bind (join_list (items := _) ⟨_, hD', rfl, k, rfl⟩ (.cons y u' r) ?_ fun t' k' => wpAny_pure (hR' _ _ _ hkeep))
        have : Str.empty.length = 0 := rfl
        rw [this, Nat.mul_zero, Nat.add_zero]
        exact Nat.le_trans hsum' (by decide)
    cases hf : F d with
    | none =>
      have er : rest x rs F (n + 1) d = if d < x.cps.size then [sl x d x.cps.size] else [] := by
        show (match F d with | some (a, e) => _ | none => _) = _
        rw [hf]
      by_cases hdl : d < x.cps.size
      · refine wp_ite_pos (show d < x.cps.size from hdl) ?_
        refine wpAny_bind (wp_slice hz fun t tk => ?_)
        refine wpAny_bind (wp_push hD (by lia) fun h' k' hD' => ?_)
        refine fin (vs ++ [.str (sl x d x.cps.size) t]) (ps ++ [sl x d x.cps.size]) _ _ rfl rfl rfl k' hD' (strsAre_snoc _ _ hs) ?_ ?_
        · rw [List.map_append, List.sum_append]
          have := sl_len (x := x) (a := d) (b := x.cps.size)
          simp only [List.map_cons, List.map_nil, List.sum_cons, List.sum_nil, this]
          lia
        · rw [er, if_pos hdl] at hR
          exact hR
      · refine wp_ite_neg (show ¬ d < x.cps.size from hdl) ?_
        refine fin vs ps k s rfl rfl rfl (fun _ _ _ e => e) hD hs (by lia) ?_
        rw [er, if_neg hdl, List.append_nil] at hR
        exact hR
    | some p =>
      obtain ⟨a, e⟩ := p
      intro m' h1 h2
      obtain ⟨l1, l2, l3⟩ := hlt d a e hd hf
      have er : rest x rs F (n + 1) d = (if d < a then [sl x d a] else []) ++ rs :: rest x rs F n e := by
        show (match F d with | some (a, e) => _ | none => _) = _
        rw [hf]
      have go : ∀ (vs : List Value) (ps : List Str) (k : Nat) (s' : Shared), s'.gens = s.gens → s'.drawn = s.drawn → s'.os = s.os → (∀ b o, b ≠ D → s.heap.get? b = some o → s'.heap.get? b = some o) → s'.heap.get? D = some { cls := .type "list", data := .seq vs.toArray k } → StrsAre vs ps →
          (ps.map (·.length)).sum ≤ 11 * d + (a - d) → vs.length ≤ 2 * d + 1 →
          (∀ h' tk t, (∀ b o, b ≠ D → s.heap.get? b = some o → h'.get? b = some o) → R (.ok (.ret (.str (Txt.join Str.empty (ps ++ rs :: rest x rs F n e)) t))) { s with heap := h', toks := tk }) →
          wpAny (model prog w) A.in1 (updateSeq D (fun x => x.push (.str rs rt)) >>= fun _ => again (.builtin "re.Pattern.sub.loop" ⟨[.ref P, .str x u, .str rs rt, rawInt 0, rawInt 0, rawInt (c + 1), rawInt m'.handed, rawInt m'.handed, .bool (m'.handed == m'.start), .ref D, .bool false], []⟩))
            (fun fin s' => match fin with | .done f => R (.ok f) s' | .again c' => c'.quiet = true ∧ codeAny (model prog w) A c' R s') (fun e s' => R (.error e) s') s' := by
        rintro vs ps k ⟨hp', g', d', t', os'⟩ rfl rfl rfl hkeep hD' hs' hsum' hl' hR'
        refine wpAny_bind (wp_push hD' (by lia) fun h' k' hD'' => ?_)
        rw [h1, h2]
        refine wpAny_pure ⟨plainId_quiet plain_loop _, ih e (by lia) l3 _ _ _ (ps ++ [rs]) _ _ (hp.keeps fun b o hb eq => k' b o hb (hkeep b o hb eq)) hD'' (strsAre_snoc _ _ hs') ?_ ?_ fun h'' tk t k'' => ?_⟩
        · rw [List.map_append, List.sum_append]
          simp only [List.map_cons, List.map_nil, List.sum_cons, List.sum_nil]
          lia
        · rw [List.length_append]
          simp only [List.length_cons, List.length_nil]
          lia
        · have := hR' h'' tk t fun b o hb eq => k'' b o hb (k' b o hb (hkeep b o hb eq))
          rw [List.append_assoc]
          exact this
      by_cases hda : d < a
      · refine wp_ite_pos (show d < m'.start by rw [h1]; exact hda) ?_
        refine wpAny_bind (wp_slice hz fun t tk => ?_)
        refine wpAny_bind (wp_push hD (by lia) fun h' k' hD' => ?_)
        rw [h1] at hD'
        refine go (vs ++ [.str (sl x d a) t]) (ps ++ [sl x d a]) _ _ rfl rfl rfl k' hD' (strsAre_snoc _ _ hs) ?_ ?_ ?_
        · rw [List.map_append, List.sum_append]
          have := sl_len (x := x) (a := d) (b := a)
          simp only [List.map_cons, List.map_nil, List.sum_cons, List.sum_nil, this]
          lia
        · rw [List.length_append]
          simp only [List.length_cons, List.length_nil]
          lia
        · rw [er, if_pos hda] at hR
          rw [List.append_assoc]
          exact hR
      · refine wp_ite_neg (show ¬ d < m'.start by rw [h1]; exact hda) ?_
        refine go vs ps k s rfl rfl rfl (fun _ _ _ e => e) hD hs (by lia) (by lia) ?_
        rw [er, if_neg hda] at hR
        exact hR
end
end
section
open PySem PySem.W PyProof.Rows
open PySem.Sre PySem.Builtin.Re
theorem slot_sub : Slot "re.Pattern" "sub" "re.Pattern.sub" :=
  .of (owner := "re.Pattern") (n := "sub") (by rw [typeLookup_type, builtinLookup_eq_fast]; kernel_rfl) (by decide +kernel) (by decide +kernel) (by decide +kernel)
    (by first | exact .inl (by decide +kernel) | exact .inr (by decide +kernel)) (by rw [isSubtype_type]; kernel_rfl)
theorem type_sub : typeOf (.builtin "re.Pattern.sub") = pure (.type "method_descriptor") := by show builtinType _ = _; rw [builtinType_eq_fast]; kernel_rfl
theorem named3 (a b : Value) : reNamed "re.Pattern.sub" "sub" ["repl", "string", "count"] 2 [a, b] [] = pure [some a, some b, none] := rfl
theorem str_call : typeLookup (.type "str") "__call__" = pure none := by rw [typeLookup_type, builtinLookup_eq_fast]; kernel_rfl
theorem args_sub (a b c : Value) : argsOk "re.Pattern.sub" ⟨[a, b, c], []⟩ := by
  unfold argsOk; kernel_rfl
open PySem.Sre PySem.Builtin.Re
theorem plain_pat : PlainAttrs "re.Pattern" :=
  ⟨⟨"object.__getattribute__", by rw [typeLookup_type, builtinLookup_eq_fast]; kernel_rfl, by decide +kernel⟩, by rw [typeLookup_type, builtinLookup_eq_fast]; kernel_rfl⟩
section
variable {prog : Program} {w : World} {A : Around} {E : Value → Shared → Prop} {s : Shared}
theorem wp_sub {code : Array Nat} {x rs : Str} {F : Nat → Option (Nat × Nat)} {P : Addr} {u rt : Tok} {Q : Value → Shared → Prop} (hp : PatAt s.heap P code)
    (hF : ∀ pos must, pos ≤ x.cps.size → ∃ b, b < 1000000 ∧ Ends (Sre.forSearch code x.cps 0 pos x.cps.size must) b (Says (F pos)))
    (hlt : ∀ pos a e, pos ≤ x.cps.size → F pos = some (a, e) → pos ≤ a ∧ a < e ∧ e ≤ x.cps.size) (hz : x.cps.size ≤ 1000) (hr : rs.length ≤ 10) (hb : rs.cps.contains 92 = false)
    (h : ∀ h' tk t, (∀ b o, s.heap.get? b = some o → h'.get? b = some o) → Q (.str (Txt.join Str.empty (rest x rs F (x.cps.size + 1) 0)) t) { s with heap := h', toks := tk }) :
    wpAny (model prog w) A (call (.builtin "re.Pattern.sub") [.ref P, .str rs rt, .str x u]) Q E s := by
  obtain ⟨p0, p1, p3, p4, t2, t6, C, items, n, a1, a2, a3⟩ := hp
  have hT : s.TypeIs (.ref P) "re.Pattern" := ⟨_, a1, rfl⟩
  refine wpAny_call (codeAny_call_builtin slot_sub.plain entry_sub (slot_sub.check _ _ _ _ _ _ _ _ hT (args_sub _ _ _) ?_))
  show wpAny _ A.in1 (reNamed "re.Pattern.sub" "sub" ["repl", "string", "count"] 2 [.str rs rt, .str x u] [] >>= _) _ _ s
  rw [named3]
  refine wpAny_bind (wpAny_pure ?_)
  refine wpAny_bind (wpAny_pure ?_)
  refine wpAny_bind (wpAny_specialOf (T := "str") (v := .str rs rt) rfl str_call ?_)
  refine wpAny_bind (wpAny_bind (wpAny_pure (wpAny_pure ?_)))
  refine wpAny_bind (wpAny_pure ?_)
  refine wp_ite_pos (c := (!rs.cps.contains 92) = true) (by rw [hb]; rfl) ?_
  refine wpAny_bind (wpAny_pure ?_)
  refine wpAny_bind (wpAny_holding (wp_target ⟨p0, p1, p3, p4, t2, t6, C, items, n, a1, a2, a3⟩ ?_))
  refine wpAny_bind (wpAny_newObj_type ?_)
  have l1 : P ≠ s.heap.objs.size := Nat.ne_of_lt (Heap.lt_size a1)
  have l2 : C ≠ s.heap.objs.size := Nat.ne_of_lt (Heap.lt_size a2)
  refine wpAny_pure ⟨plainId_quiet plain_loop _, wp_loop hF hlt hz hr (x.cps.size + 1) 0 (by lia) (Nat.zero_le _) 0 false [] [] 0 _ ⟨p0, p1, p3, p4, t2, t6, C, items, n, Heap.get?_push_of_some _ a1, Heap.get?_push_of_some _ a2, a3, l1, l2⟩ (Heap.get?_push_size _ rfl) .nil (Nat.zero_le _) (Nat.zero_le _) fun h' tk t k => ?_⟩
  exact h h' tk t fun b o e => k b o (Nat.ne_of_lt (Heap.lt_size e)) (Heap.get?_push_of_some _ e)
end
end
section
open PySem PySem.W PyProof.Rows
open PySem.Sre
def tl (x : Str) : List Nat := x.cps.toList
theorem tl_join : ∀ ps : List Str, tl (Txt.join Str.empty ps) = (ps.map tl).flatten := by
  intro ps
  have key : ∀ ps : List Str, tl (Str.join Str.empty ps) = (ps.map tl).flatten := by
    intro ps
    induction ps with
    | nil => rfl
    | cons a r ih =>
      cases r with
      | nil => simp [Str.join, tl]
      | cons b r' =>
        show tl (a ++ Str.empty ++ Str.join Str.empty (b :: r')) = _
        rw [List.map_cons, List.flatten_cons, ← ih]
        show ((a.cps ++ #[]) ++ (Str.join Str.empty (b :: r')).cps).toList = _
        simp [tl]
  have e : Txt.join Str.empty ps = Str.join Str.empty ps := by
    exact StrLaws.glued_eq_join _ _
  rw [e]; exact key ps
theorem sl_tl {x : Str} {a b : Nat} : tl (sl x a b) = ((tl x).drop a).take (b - a) := by
  show (x.cps.extract a b).toList = _
  rw [Array.toList_extract]; rfl
/-- what a search leads to -/
def Leads (x rs : Str) (F : Nat → Option (Nat × Nat)) (G : Nat → List Nat) : Prop :=
  ∀ d, d ≤ x.cps.size → match F d with
    | some (a, e) => d ≤ a ∧ a < e ∧ e ≤ x.cps.size ∧ G d = ((tl x).drop d).take (a - d) ++ tl rs ++ G e
    | none => G d = (tl x).drop d
theorem rest_leads {x rs : Str} {F : Nat → Option (Nat × Nat)} {G : Nat → List Nat} (H : Leads x rs F G) : ∀ n d, x.cps.size - d < n → d ≤ x.cps.size → ((rest x rs F n d).map tl).flatten = G d := by
  intro n
  induction n with
  | zero => intro d h; lia
  | succ n ih =>
    intro d h hd
    have q := H d hd
    unfold rest
    cases hf : F d with
    | none =>
      rw [hf] at q
      dsimp only at q ⊢
      rw [q]
      by_cases hl : d < x.cps.size
      · rw [if_pos hl]
        simp only [List.map_cons, List.map_nil, List.flatten_cons, List.flatten_nil, List.append_nil, sl_tl]
        apply List.take_of_length_le
        simp [tl]
      · rw [if_neg hl]
        have : (tl x).length ≤ d := by simp [tl]; lia
        rw [List.drop_eq_nil_of_le this]; rfl
    | some p =>
      obtain ⟨a, e⟩ := p
      rw [hf] at q
      dsimp only at q ⊢
      obtain ⟨q1, q2, q3, q4⟩ := q
      rw [q4, List.map_append, List.map_cons, List.flatten_append, List.flatten_cons, ih e (by lia) q3]
      by_cases hl : d < a
      · rw [if_pos hl]
        simp [sl_tl]
      · rw [if_neg hl]
        have : a - d = 0 := by lia
        rw [this]; simp
theorem drop_cons {l : List Nat} {s : Nat} (h : s < l.length) : l.drop s = l.getD s 0 :: l.drop (s + 1) := by
  rw [List.getD_eq_getElem?_getD, List.getElem?_eq_getElem h]; exact List.drop_eq_getElem_cons h
theorem getD_tl {x : Str} {s : Nat} : x.cps.getD s 0 = (tl x).getD s 0 := by
  simp [tl]
/-! the first pattern -/
def dots : Bool → List Nat → List Nat
  | _, [] => []
  | b, c :: r => (if (b && c == 46) = true then [46, 46] else [c]) ++ dots (c == 10) r
theorem bol_succ {text : Array Nat} {s : Nat} : bol text (s + 1) = (text.getD s 0 == 10) := by
  unfold bol; simp
theorem dots_at {x : Str} {s : Nat} (h : s < x.cps.size) : dots (bol x.cps s) ((tl x).drop s) = (if hit1 x.cps s = true then [46, 46] else [(tl x).getD s 0]) ++ dots (bol x.cps (s + 1)) ((tl x).drop (s + 1)) := by
  rw [drop_cons (by simpa [tl] using h), bol_succ, getD_tl]
  show (if (bol x.cps s && (tl x).getD s 0 == 46) = true then _ else _) ++ _ = _
  have : hit1 x.cps s = (bol x.cps s && (tl x).getD s 0 == 46) := by
    unfold hit1; rw [getD_tl]; simp [h]
  rw [this]
theorem leads1 {x rs : Str} (hr : tl rs = [46, 46]) : Leads x rs (fun p => find1 x.cps (x.cps.size + 1 - p) p) (fun d => dots (bol x.cps d) ((tl x).drop d)) := by
  have key : ∀ n d, x.cps.size + 1 - d = n → d ≤ x.cps.size → match find1 x.cps n d with
    | some (a, e) => d ≤ a ∧ a < e ∧ e ≤ x.cps.size ∧ dots (bol x.cps d) ((tl x).drop d) = ((tl x).drop d).take (a - d) ++ [46, 46] ++ dots (bol x.cps e) ((tl x).drop e)
    | none => dots (bol x.cps d) ((tl x).drop d) = (tl x).drop d := by
    intro n
    induction n with
    | zero => intro d h1 h2; lia
    | succ n ih =>
      intro d h1 h2
      unfold find1
      cases hh : hit1 x.cps d with
      | true =>
        simp only [if_true]
        have hd : d < x.cps.size := by
          unfold hit1 at hh
          simp only [Bool.and_eq_true, decide_eq_true_eq] at hh
          exact hh.2.1
        refine ⟨Nat.le_refl _, Nat.lt_succ_self _, hd, ?_⟩
        rw [dots_at hd, hh]; simp
      | false =>
        simp only [Bool.false_eq_true, if_false]
        by_cases hd : d < x.cps.size
        · have q := ih (d + 1) (by lia) hd
          have e0 := dots_at (x := x) hd
          rw [hh] at e0
          simp only [Bool.false_eq_true, if_false] at e0
          have hl : d < (tl x).length := by simpa [tl] using hd
          cases hf : find1 x.cps n (d + 1) with
          | none =>
            rw [hf] at q
            dsimp only at q ⊢
            rw [e0, q, drop_cons hl]; rfl
          | some p =>
            obtain ⟨a, e⟩ := p
            rw [hf] at q
            dsimp only at q ⊢
            obtain ⟨q1, q2, q3, q4⟩ := q
            refine ⟨by lia, q2, q3, ?_⟩
            rw [e0, q4, drop_cons hl]
            have : a - d = (a - (d + 1)) + 1 := by lia
            rw [this, List.take_succ_cons]; simp
        · have hn : n = 0 := by lia
          subst hn
          show dots _ _ = _
          have : (tl x).length ≤ d := by simp [tl]; lia
          rw [List.drop_eq_nil_of_le this]; rfl
  intro d hd
  have := key _ d rfl hd
  dsimp only
  rw [hr]
  exact this
/-! the second pattern -/
def crlf : List Nat → List Nat
  | [] => []
  | 13 :: 10 :: r => 13 :: 10 :: crlf r
  | c :: r => if isEnd c = true then 13 :: 10 :: crlf r else c :: crlf r
theorem crlf_no {c : Nat} {r : List Nat} (h : isEnd c = false) : crlf (c :: r) = c :: crlf r := by
  conv => lhs; unfold crlf
  split
  · rename_i h1; cases h1
  · rename_i h1; cases h1; cases h
  · rename_i c' r' h1 h2
    cases h2
    rw [if_neg (by rw [h]; exact Bool.false_ne_true)]
theorem crlf_two {r : List Nat} : crlf (13 :: 10 :: r) = 13 :: 10 :: crlf r := rfl
theorem crlf_one {c : Nat} {r : List Nat} (h : isEnd c = true) (hn : c = 13 → r.getD 0 0 ≠ 10) : crlf (c :: r) = 13 :: 10 :: crlf r := by
  conv => lhs; unfold crlf
  split
  · rename_i h1; cases h1
  · rename_i r' h1; cases h1; exact absurd rfl (hn rfl)
  · rename_i c' r' h1 h2
    cases h2
    rw [if_pos h]
theorem crlf_at {x : Str} {s : Nat} (h : s < x.cps.size) : crlf ((tl x).drop s) = if isEnd (x.cps.getD s 0) = true then [13, 10] ++ crlf ((tl x).drop (s + endLen x.cps s)) else (tl x).getD s 0 :: crlf ((tl x).drop (s + 1)) := by
  have hl : s < (tl x).length := by simpa [tl] using h
  rw [getD_tl]
  cases hi : isEnd ((tl x).getD s 0) with
  | false => rw [drop_cons hl, crlf_no hi]; rfl
  | true =>
    simp only [if_true]
    unfold endLen
    rw [getD_tl, getD_tl]
    cases hc : ((tl x).getD s 0 == 13 && (decide (s + 1 < x.cps.size) && (tl x).getD (s + 1) 0 == 10)) with
    | true =>
      simp only [Bool.and_eq_true, decide_eq_true_eq, beq_iff_eq] at hc
      have hl2 : s + 1 < (tl x).length := by simpa [tl] using hc.2.1
      rw [drop_cons hl, drop_cons hl2, hc.1, hc.2.2, crlf_two]; rfl
    | false =>
      rw [drop_cons hl, crlf_one hi]
      · rfl
      · intro h13 h10
        rw [h13] at hc
        simp only [beq_self_eq_true, Bool.true_and, Bool.and_eq_false_iff, decide_eq_false_iff_not, beq_eq_false_iff_ne] at hc
        by_cases q : s + 1 < x.cps.size
        · refine hc.elim (fun z => z q) fun z => z ?_
          rw [List.getD_eq_getElem?_getD, List.getElem?_drop] at h10
          rw [List.getD_eq_getElem?_getD]; exact h10
        · have : (tl x).length ≤ s + 1 := by simp [tl]; lia
          rw [List.drop_eq_nil_of_le this] at h10
          cases h10
theorem endLen_pos {text : Array Nat} {s : Nat} : 1 ≤ endLen text s := by unfold endLen; split <;> lia
theorem endLen_le {text : Array Nat} {s : Nat} (h : s < text.size) : s + endLen text s ≤ text.size := by
  unfold endLen
  by_cases q : s + 1 < text.size
  · have : ∀ c : Bool, s + (if c = true then 2 else 1) ≤ text.size := fun c => by cases c <;> simp <;> lia
    exact this _
  · have : ∀ c d : Bool, s + (if (c && (decide (s + 1 < text.size) && d)) = true then 2 else 1) ≤ text.size := fun c d => by
      rw [decide_eq_false q]; cases c <;> simp <;> lia
    exact this _ _
theorem leads2 {x rs : Str} (hr : tl rs = [13, 10]) : Leads x rs (fun p => find2 x.cps (x.cps.size + 1 - p) p) (fun d => crlf ((tl x).drop d)) := by
  have key : ∀ n d, x.cps.size + 1 - d = n → d ≤ x.cps.size → match find2 x.cps n d with
    | some (a, e) => d ≤ a ∧ a < e ∧ e ≤ x.cps.size ∧ crlf ((tl x).drop d) = ((tl x).drop d).take (a - d) ++ [13, 10] ++ crlf ((tl x).drop e)
    | none => crlf ((tl x).drop d) = (tl x).drop d := by
    intro n
    induction n with
    | zero => intro d h1 h2; lia
    | succ n ih =>
      intro d h1 h2
      unfold find2
      by_cases hd : d < x.cps.size
      · rw [if_neg (Nat.not_le.mpr hd)]
        have e0 := crlf_at (x := x) hd
        have hl : d < (tl x).length := by simpa [tl] using hd
        cases hh : isEnd (x.cps.getD d 0) with
        | true =>
          rw [hh] at e0
          simp only [if_true] at e0 ⊢
          refine ⟨Nat.le_refl _, ?_, endLen_le hd, ?_⟩
          · have := endLen_pos (text := x.cps) (s := d); lia
          · rw [e0]; simp
        | false =>
          rw [hh] at e0
          simp only [Bool.false_eq_true, if_false] at e0 ⊢
          have q := ih (d + 1) (by lia) hd
          cases hf : find2 x.cps n (d + 1) with
          | none =>
            rw [hf] at q
            dsimp only at q ⊢
            rw [e0, q, drop_cons hl]
          | some p =>
            obtain ⟨a, e⟩ := p
            rw [hf] at q
            dsimp only at q ⊢
            obtain ⟨q1, q2, q3, q4⟩ := q
            refine ⟨by lia, q2, q3, ?_⟩
            rw [e0, q4, drop_cons hl]
            have : a - d = (a - (d + 1)) + 1 := by lia
            rw [this, List.take_succ_cons]; simp
      · rw [if_pos (Nat.not_lt.mp hd)]
        show crlf _ = _
        have : (tl x).length ≤ d := by simp [tl]; lia
        rw [List.drop_eq_nil_of_le this]; rfl
  intro d hd
  have := key _ d rfl hd
  dsimp only
  rw [hr]
  exact this
end
section
open PySem PySem.W PyProof.Rows
open PySem.Sre PySem.Builtin.Re
theorem crlf_len : ∀ n (l : List Nat), l.length ≤ n → (crlf l).length ≤ 2 * l.length := by
  intro n
  induction n with
  | zero => intro l h; cases l with | nil => exact Nat.le_refl _ | cons a r => simp at h
  | succ n ih =>
    intro l h
    unfold crlf
    split
    · exact Nat.le_refl _
    · rename_i r
      have := ih r (by simp at h; lia)
      simp only [List.length_cons]; lia
    · rename_i c r _
      have := ih r (by simp at h; lia)
      split <;> simp only [List.length_cons] <;> lia
section
variable {prog : Program} {w : World} {A : Around} {E : Value → Shared → Prop} {s : Shared} {h₀ : Heap} {L : Addr} {m : Str → Option Value} {news : List (Addr × Obj)} {K : Frag} {P C : Addr}
theorem pat_method {pl : Sem Bool} {vs : Array Value} {Q : Value × List Value → Shared → Prop} (F : Fr h₀ L s.heap m) (X : K.In h₀) (hk : K.lookup P = some ⟨.type "re.Pattern", none, .fields vs, #[]⟩)
    (h : Q (.builtin "re.Pattern.sub", [.ref P]) s) : wpAny (model prog w) A (getMethod (.ref P) (Str.ofString "sub") pl) Q E s := by
  have e := F.keep _ _ (X _ _ hk)
  exact getMethod_builtin ⟨_, e, rfl⟩ plain_pat slot_sub type_sub (fun a q => by cases q; exact ⟨_, e, rfl⟩) h
theorem pat_at {p0 p1 p3 p4 : Value} {t2 t6 : Tok} {items : Array Value} {k : Nat} (F : Fr h₀ L s.heap m) (X : K.In h₀) (hk : K.lookup P = some ⟨.type "re.Pattern", none, .fields #[p0, p1, .int 0 t2, p3, p4, .ref C, .int 0 t6], #[]⟩)
    (hc : K.lookup C = some ⟨.type "tuple", none, .seq items k, #[]⟩) {code : Array Nat} (e : (items.map reRawOf).map (·.toNat) = code) : PatAt s.heap P code :=
  ⟨p0, p1, p3, p4, t2, t6, C, items, k, F.keep _ _ (X _ _ hk), F.keep _ _ (X _ _ hc), e⟩
theorem size_1000 {x : Str} (h : x.cps.size ≤ 400) : x.cps.size ≤ 1000 := by lia
theorem size_crlf {x r : Str} (h : x.cps.size ≤ 400) (e : tl r = crlf (tl x)) : r.cps.size ≤ 1000 := by
  have h1 : r.cps.size = (tl r).length := by simp [tl]
  have h2 := crlf_len _ (tl x) (Nat.le_refl _)
  have h3 : (tl x).length = x.cps.size := by simp [tl]
  rw [h1, e]; lia
theorem crlf_call {x rs : Str} {u rt : Tok} {Q : Value → Shared → Prop} (F : Fr h₀ L s.heap m) (N : News h₀ L s.heap news) (hp : PatAt s.heap P code2) (hz : x.cps.size ≤ 1000) (hr : tl rs = [13, 10])
    (h : ∀ h' tk t r, tl r = crlf (tl x) → Fr h₀ L h' m → News h₀ L h' news → Q (.str r t) { s with heap := h', toks := tk }) :
    wpAny (model prog w) A (call (.builtin "re.Pattern.sub") [.ref P, .str rs rt, .str x u]) Q E s := by
  have hl := leads2 (x := x) hr
  have hrs : rs.cps = #[13, 10] := Array.toList_inj.mp hr
  refine wp_sub hp (fun pos must hpos => ⟨30, by decide, search2 hpos⟩) (fun pos a e hpos hf => ?_) hz (by show rs.cps.size ≤ _; rw [hrs]; decide) (by rw [hrs]; decide +kernel) fun h' tk t k => ?_
  · have := hl pos hpos
    dsimp only at this
    rw [hf] at this
    exact ⟨this.1, this.2.1, this.2.2.1⟩
  · refine h h' tk t _ ?_ (F.grownK k) (N.grown k)
    rw [tl_join, rest_leads hl _ 0 (by lia) (Nat.zero_le _)]
    simp
theorem dots_call {x rs : Str} {u rt : Tok} {Q : Value → Shared → Prop} (F : Fr h₀ L s.heap m) (N : News h₀ L s.heap news) (hp : PatAt s.heap P code1) (hz : x.cps.size ≤ 1000) (hr : tl rs = [46, 46])
    (h : ∀ h' tk t r, tl r = dots true (tl x) → Fr h₀ L h' m → News h₀ L h' news → Q (.str r t) { s with heap := h', toks := tk }) :
    wpAny (model prog w) A (call (.builtin "re.Pattern.sub") [.ref P, .str rs rt, .str x u]) Q E s := by
  have hl := leads1 (x := x) hr
  have hrs : rs.cps = #[46, 46] := Array.toList_inj.mp hr
  refine wp_sub hp (fun pos must hpos => ⟨4 * (x.cps.size + 1 - pos) + 4, by lia, search1 hpos⟩) (fun pos a e hpos hf => ?_) hz (by show rs.cps.size ≤ _; rw [hrs]; decide) (by rw [hrs]; decide +kernel) fun h' tk t k => ?_
  · have := hl pos hpos
    dsimp only at this
    rw [hf] at this
    exact ⟨this.1, this.2.1, this.2.2.1⟩
  · refine h h' tk t _ ?_ (F.grownK k) (N.grown k)
    rw [tl_join, rest_leads hl _ 0 (by lia) (Nat.zero_le _)]
    simp [bol]
end
end
section
open PySem PySem.W PyProof.Rows PySem.Flt

local macro_rules | `(tactic| walk_at "getMethod ref") => `(tactic| (k_here; (with_reducible show wpAny _ _ (getMethod (Value.ref _) (PySem.Str.ofString "sub") _) _ _ _); (with_reducible rename Fr _ _ _ _ => kF); k_dflt (refine' pat_method kF (by k_asm) (by k_is) ?_)))
local macro_rules | `(tactic| walk_at "call builtin:re.Pattern.sub") => `(tactic| (k_here; (with_reducible rename Fr _ _ _ _ => kF); k_dflt (first
  | (refine' crlf_call kF ?N (pat_at (P := 80) (C := 79) kF ?X ?k ?c ?e) ?z ?r ?_; (case X => k_asm); (case k => k_is); (case c => k_is); (case e => decide +kernel); (case N => k_asm); (case z => walk_at "size"); (case r => rfl))
  | (refine' dots_call kF ?N (pat_at (P := 75) (C := 74) kF ?X ?k ?c ?e) ?z ?r ?_; (case X => k_asm); (case k => k_is); (case c => k_is); (case e => decide +kernel); (case N => k_asm); (case z => walk_at "size"); (case r => rfl))); walk_at "ie"))
local macro_rules | `(tactic| walk_at "size") => `(tactic| first | exact size_1000 (by assumption) | exact size_crlf (by assumption) (by assumption))
section
variable {w : World} {mean : ExcName → Option Value} {mg mb : Str → Option Value} {dp un : Nat} {gd : Option (List Code)} {cn : Str} {cs : Scope} {a : Addr} {ccd : Value} {cl : List (Str × Addr)} {outer : List Env} {A₀ : Around} {base h₀ : Heap} {L : Addr} {m : Str → Option Value} {news : List (Addr × Obj)} {s : Shared} {Q E : Value → Shared → Prop}
set_option maxRecDepth 100000
set_option maxHeartbeats 8000000

theorem c_quote {x : Str} {u : Tok} (B : Below A₀ base outer h₀) (F : Fr h₀ L s.heap m) (X : (Mine.hd.heap_39 w.params).In h₀) (N : News h₀ L s.heap news) (T : Top Mine.hd.view_39 looseL mean mg mb h₀) (hk : cs.kind = .function) (hd : dp + 12 < recursionLimit) (hz : x.cps.size ≤ 400)
    (hret : ∀ h' tk t r, tl r = dots true (crlf (tl x)) → Fr h₀ L h' m → News h₀ L h' news → Q (.str r t) { s with heap := h', toks := tk }) :
    wpAny (model Challenge.rw_sc0061_01.row.prog w) (ktrTop dp un gd cn cs L a ccd cl outer) (call (.ref 87) [.str x u]) Q E s := by
  revert X
  k_fill
  intro X
  refine wpAny_call ?_
  k_dflt ktr_enter
  walk_at "go"
  rename tl _ = crlf _ => e1
  rename tl _ = dots true _ => e2
  rw [e1] at e2
  exact hret _ _ _ _ e2 (by assumption) (by assumption)
end
end
section
open PySem PySem.W PyProof.Rows PySem.Flt

def sc (x y : Str) : Int := if (x == y) = true then 0 else if (Txt.lower x == Txt.lower y) = true then 1 else 2
theorem ne_tt {b : Bool} (h : b = false) : ¬ b = true := by rw [h]; decide
section
variable {w : World} {mean : ExcName → Option Value} {mg mb : Str → Option Value} {dp un : Nat} {gd : Option (List Code)} {cn : Str} {cs : Scope} {a : Addr} {ccd : Value} {cl : List (Str × Addr)} {outer : List Env} {A₀ : Around} {base h₀ : Heap} {L : Addr} {m : Str → Option Value} {news : List (Addr × Obj)} {s : Shared} {Q E : Value → Shared → Prop}
set_option maxRecDepth 100000
set_option maxHeartbeats 8000000

theorem c_sub {x y : Str} {u v : Tok} (B : Below A₀ base outer h₀) (F : Fr h₀ L s.heap m) (X : (Mine.hd.heap_39 w.params).In h₀) (N : News h₀ L s.heap news) (T : Top Mine.hd.view_39 looseL mean mg mb h₀) (hk : cs.kind = .function) (hd : dp + 6 < recursionLimit) (hx : x.length = 1) (hy : y.length = 1)
    (hret : ∀ h' tk t, Fr h₀ L h' m → News h₀ L h' news → Q (.int (sc x y) t) { s with heap := h', toks := tk }) :
    wpAny (model Challenge.rw_sc0061_01.row.prog w) (ktrTop dp un gd cn cs L a ccd cl outer) (call (.ref 94) [.str x u, .str y v]) Q E s := by
  revert X
  k_fill
  intro X
  refine wpAny_call ?_
  k_dflt ktr_enter
  walk_at "go"
  · have e : sc x y = 0 := by unfold sc; rw [if_pos (by assumption)]
    rw [e] at hret
    exact hret _ _ _ (by assumption) (by assumption)
  · have e : sc x y = 1 := by unfold sc; rw [if_neg (ne_tt (by assumption)), if_pos (by assumption)]
    rw [e] at hret
    exact hret _ _ _ (by assumption) (by assumption)
  · have e : sc x y = 2 := by unfold sc; rw [if_neg (ne_tt (by assumption)), if_neg (ne_tt (by assumption))]
    rw [e] at hret
    exact hret _ _ _ (by assumption) (by assumption)
end
end
section
open PySem PySem.W PyProof.Rows
section
variable {prog : Program} {w : World} {A : Around} {E : Value → Shared → Prop} {s : Shared} {h₀ : Heap} {L a : Addr} {m : Str → Option Value} {news news' : List (Addr × Obj)} {x y : Int} {t u : Tok} {Q : Value → Shared → Prop} {env : Env}
  {cn : Str} {cs : Scope} {ccd : Value} {cl : List (Str × Addr)}
def minI (x y : Int) : Int := if y < x then y else x
theorem g_min (hh : A.handled = none) (F : Fr h₀ L s.heap m) (N : News h₀ L s.heap news) (h : ∀ h' t' tk, Fr h₀ L h' m → News h₀ L h' news → Q (.int (minI x y) t') { s with heap := h', toks := tk }) :
    wpAny (model prog w) A (call (.builtin "min") [.int x t, .int y u]) Q E s := min_two_N hh F N fun h' tk F' N' => h h' _ tk F' N'
theorem g_range1 {n : Int} (F : Fr h₀ L s.heap m) (N : News h₀ L s.heap news)
    (h : ∀ r h' tk t₁ u₁ v₁, IsRange h' r 0 n 1 t₁ u₁ v₁ → Fr h₀ L h' m → News h₀ L h' news → Q (.ref r) { s with heap := h', toks := tk }) : wpAny (model prog w) A (call (.type "range") [.int n t]) Q E s :=
  range1_rows F N fun h' tk t₁ u₁ v₁ R F' N' _ => h _ h' tk t₁ u₁ v₁ R F' N'
theorem g_range2 {n b : Int} (F : Fr h₀ L s.heap m) (N : News h₀ L s.heap news)
    (h : ∀ r h' tk t₁ u₁ v₁, IsRange h' r n b 1 t₁ u₁ v₁ → Fr h₀ L h' m → News h₀ L h' news → Q (.ref r) { s with heap := h', toks := tk }) : wpAny (model prog w) A (call (.type "range") [.int n t, .int b u]) Q E s :=
  range2_rows F N fun h' tk t₁ u₁ v₁ R F' N' _ => h _ h' tk t₁ u₁ v₁ R F' N'
theorem g_range3 {n b c : Int} {v : Tok} (F : Fr h₀ L s.heap m) (N : News h₀ L s.heap news) (hc : c ≠ 0) (hs : c.natAbs < 1073741824)
    (h : ∀ r h' tk t₁ u₁ v₁, IsRange h' r n b c t₁ u₁ v₁ → Fr h₀ L h' m → News h₀ L h' news → Q (.ref r) { s with heap := h', toks := tk }) : wpAny (model prog w) A (call (.type "range") [.int n t, .int b u, .int c v]) Q E s :=
  range3_rows F N hc (fun h' tk t₁ u₁ v₁ R F' N' _ => h _ h' tk t₁ u₁ v₁ R F' N') (Or.inl (PyProof.noPylong_small hs))
/-- the ints of a range with a step -/
def stepInts (a c : Int) (n : Nat) : List Int := (List.range n).map fun (i : Nat) => a + (i : Int) * c
theorem ints_of : ∀ (vs : List Value) (ns : List Int), vs.length = ns.length → (∀ (j : Nat) (v : Value), vs[j]? = some v → ∃ t, v = .int (ns.getD j 0) t) → IntsAre vs ns
  | [], [], _, _ => .nil
  | [], _ :: _, e, _ => by cases e
  | _ :: _, [], e, _ => by cases e
  | v :: r, n :: k, e, h => by
    obtain ⟨t, ht⟩ := h 0 v rfl
    have hv : v = .int n t := ht
    subst hv
    exact .cons _ _ (ints_of r k (Nat.succ.inj e) fun j v hj => h (j + 1) v hj)
theorem g_listrange {r : Addr} {p b c : Int} {t₀ u₀ v₀ : Tok} {n : Nat} (hh : A.handled = none) (F : Fr h₀ L s.heap m) (N : News h₀ L s.heap news) (hr : IsRange s.heap r p b c t₀ u₀ v₀) (hsmall : Builtin.Range.small p b c = true) (hn : Builtin.Range.rangeSize p b c = (n : Int)) (hz : n ≤ 1000)
    (h : ∀ D us k h' tk, Fr h₀ L h' m → News h₀ L h' ((D, listOf (List.toArray us) k) :: news) → (∀ p ∈ news, p.1 < D) → IntsAre us (stepInts p c n) → Q (.ref D) { s with heap := h', toks := tk }) :
    wpAny (model prog w) A (call (.type "list") [.ref r]) Q E s := by
  refine call_list_range hh hr hsmall hn (Nat.le_trans hz (by decide)) fun h' tk acc k hk hD hI => ?_
  have hD' : h'.get? s.heap.objs.size = some (listOf (List.toArray acc.toList) k) := by
    rw [Array.toArray_toList]
    exact hD
  refine h _ acc.toList k h' tk (F.keeps hk) (news_pushed F N hk hD' rfl) (fun p hp => Heap.lt_size (N p hp).1) (ints_of _ _ (by rw [Array.length_toList]; simp [stepInts]; exact hI.1) fun j v hj => ?_)
  have hj' : acc[j]? = some v := by rw [← hj, Array.getElem?_toList]
  obtain ⟨t, ht⟩ := hI.2 j v hj'
  have hlt : j < n := by
    have := hI.1
    have h2 : j < acc.size := by
      refine Nat.not_le.mp fun q => ?_
      rw [Array.getElem?_eq_none q] at hj'
      cases hj'
    lia
  refine ⟨t, ?_⟩
  rw [ht]
  simp [stepInts, List.getD_eq_getElem?_getD, hlt]
theorem g_stritem {value slice : PySem.Expr} {z : Str} (h1 : -(z.length : Int) ≤ x) (h2 : x < z.length) (hz : z.length ≤ 1000) (h : ∀ t' tk, Q (.str (Txt.item z x) t') { s with toks := tk })
    (hs : subscripted slice false (.str z u) (.int x t) = operate [.str z u, .int x t] (getItem (.str z u) (.int x t))) (ht : ∀ r, letTemporaryGo value (.str z u) r = pure ()) :
    wpAny (model prog w) A (subscriptTail value slice (.str z u) (.int x t)) Q E s :=
  item_str (by unfold PySem.fitsSsize; simp; lia) h1 h2 (fun _ => h _ _) hs ht
theorem g_strlen {z : Str} (hz : z.length ≤ 1000) (h : ∀ t' tk, Q (.int (z.length : Int) t') { s with toks := tk }) : wpAny (model prog w) A (call (.builtin "len") [.str z t]) Q E s := SBL.len (by lia) (h _ _)
theorem g_strtrue {z : Str} {Q : Bool → Shared → Prop} (hz : z.length ≤ 1000) (h : ∀ tk, Q ((z.length : Int) != 0) { s with toks := tk }) : wpAny (model prog w) A (PySem.truthy (.str z t)) Q E s := SBL.truthy (by lia) (h _)
theorem g_mulr (hy : Builtin.Int.intBits y ≤ 64) (h : ∀ t tk, Q (.int (x * y) t) { s with toks := tk }) : wpAny (model prog w) A (binaryOp .Mult (.int x t) (.int y u)) Q E s := g_mul (IntMulOk.of_right hy) h
theorem g_mull (hx : Builtin.Int.intBits x ≤ 64) (h : ∀ t tk, Q (.int (x * y) t) { s with toks := tk }) : wpAny (model prog w) A (binaryOp .Mult (.int x t) (.int y u)) Q E s := g_mul (IntMulOk.of_left hx) h
end
end
section
open PySem PySem.W PyProof.Rows
theorem tl_len (x : Str) : (tl x).length = x.length := by simp [tl]; rfl
theorem tl_ext {x y : Str} (h : tl x = tl y) : x = y := by
  obtain ⟨a⟩ := x; obtain ⟨b⟩ := y
  have : a = b := Array.toList_inj.mp h
  rw [this]
theorem tl_slice_from {x : Str} {k : Nat} (h : k ≤ x.length) : tl (Txt.slice x (some (k : Int)) none) = (tl x).drop k := by
  rw [slice_from_eq (b := (x.length : Int)) (by lia) (by lia) rfl]
  show ((x.cps.toList.drop (k : Int).toNat).take ((x.length : Int) - k).toNat) = _
  rw [Int.toNat_natCast]
  apply List.take_of_length_le
  rw [List.length_drop]
  have : x.cps.toList.length = x.length := by simp; rfl
  lia
theorem tl_slice_all {x : Str} : tl (Txt.slice x none none) = tl x := by
  have : Txt.slice x none none = x := by
    unfold Txt.slice
    have : (Builtin.Str.strSliceIndices none none 1 x.length).length = x.length := by
      unfold Builtin.Str.strSliceIndices sliceRange
      simp only [show (1 : Int) > 0 by decide, if_true, List.length_map, List.length_range]
      split <;> lia
    rw [this]
    simp
  rw [this]
theorem tl_slice_neg {x : Str} {k : Nat} (h0 : 0 < k) (h : k ≤ x.length) : tl (Txt.slice x none (some (-(k : Int)))) = (tl x).take (x.length - k) := by
  have e : Txt.slice x none (some (-(k : Int))) = Txt.slice x none (some ((x.length - k : Nat) : Int)) := by
    have : Builtin.Str.strSliceIndices none (some (-(k : Int))) 1 x.length = Builtin.Str.strSliceIndices none (some ((x.length - k : Nat) : Int)) 1 x.length := by
      have h1 : -(k : Int) < 0 := by lia
      have h2 : ¬ (((x.length - k : Nat) : Int) < 0) := by lia
      have h3 : -(k : Int) + (x.length : Int) = ((x.length - k : Nat) : Int) := by lia
      simp only [Builtin.Str.strSliceIndices, h1, h2, h3, if_true, if_false]
    unfold Txt.slice
    rw [this]
  rw [e]
  have := beq_iff_eq.mp (slice_closes_to (x := x) (j := ((x.length - k : Nat) : Int)) ⟨by lia, by
    have : x.cps.toList.length = x.length := by simp; rfl
    lia⟩)
  rw [this]
  show ((x.cps.toList.drop (0 : Int).toNat).take (((x.length - k : Nat) : Int) - 0).toNat) = _
  simp [tl]
section
variable {prog : Program} {w : World} {A : Around} {E : Value → Shared → Prop} {s : Shared} {h₀ : Heap} {L a : Addr} {m : Str → Option Value} {news news' : List (Addr × Obj)} {t u : Tok} {Q : Value → Shared → Prop} {value slice : PySem.Expr} {x : Str}
theorem g_from {k : Nat} {ui : Tok} {hp : Heap} {t0 : Nat} (hF : Fr h₀ L hp m) (hN : News h₀ L hp news) (hk : k ≤ x.length) (hz : x.length ≤ 1000)
    (h : ∀ h' t' tk z, tl z = (tl x).drop k → z.length = x.length - k → Fr h₀ L h' m → News h₀ L h' news → Q (.str z t') { s with heap := h', toks := tk })
    (hs : subscripted slice false (.str x t) (.ref hp.objs.size) = operate [.ref hp.objs.size, .str x t] (getItem (.str x t) (.ref hp.objs.size))) (ht : ∀ r, letTemporaryGo value (.str x t) r = pure ()) :
    wpAny (model prog w) A (subscriptTail value slice (.str x t) (.ref hp.objs.size)) Q E { s with heap := hp.push { cls := .type "slice", data := .fields #[.int (k : Int) ui, .none, .none] }, toks := t0 } :=
  slice_strN_sn (s := { s with heap := hp, toks := t0 }) hF hN (fun h' t' k' F' N' => h h' t' k' _ (tl_slice_from hk) (by rw [← tl_len, tl_slice_from hk, List.length_drop, tl_len]) F' N') hs ht (by rw [sizeLine_eq]; lia)
theorem g_all {hp : Heap} {t0 : Nat} (hF : Fr h₀ L hp m) (hN : News h₀ L hp news) (hz : x.length ≤ 1000)
    (h : ∀ h' t' tk z, tl z = (tl x).take (x.length - 0) → z.length = x.length - 0 → Fr h₀ L h' m → News h₀ L h' news → Q (.str z t') { s with heap := h', toks := tk })
    (hs : subscripted slice false (.str x t) (.ref hp.objs.size) = operate [.ref hp.objs.size, .str x t] (getItem (.str x t) (.ref hp.objs.size))) (ht : ∀ r, letTemporaryGo value (.str x t) r = pure ()) :
    wpAny (model prog w) A (subscriptTail value slice (.str x t) (.ref hp.objs.size)) Q E { s with heap := hp.push { cls := .type "slice", data := .fields #[.none, .none, .none] }, toks := t0 } :=
  slice_strN_nn (s := { s with heap := hp, toks := t0 }) hF hN (fun h' t' k' F' N' => h h' t' k' _ (by rw [tl_slice_all, Nat.sub_zero, List.take_of_length_le (by rw [tl_len]; exact Nat.le_refl _)]) (by rw [← tl_len, tl_slice_all, tl_len]; rfl) F' N') hs ht (by rw [sizeLine_eq]; lia)
theorem g_neg {k : Nat} {j : Int} {ui : Tok} {hp : Heap} {t0 : Nat} (hF : Fr h₀ L hp m) (hN : News h₀ L hp news) (hj : j = -(k : Int)) (h0 : 0 < k) (hk : k ≤ x.length) (hz : x.length ≤ 1000)
    (h : ∀ h' t' tk z, tl z = (tl x).take (x.length - k) → z.length = x.length - k → Fr h₀ L h' m → News h₀ L h' news → Q (.str z t') { s with heap := h', toks := tk })
    (hs : subscripted slice false (.str x t) (.ref hp.objs.size) = operate [.ref hp.objs.size, .str x t] (getItem (.str x t) (.ref hp.objs.size))) (ht : ∀ r, letTemporaryGo value (.str x t) r = pure ()) :
    wpAny (model prog w) A (subscriptTail value slice (.str x t) (.ref hp.objs.size)) Q E { s with heap := hp.push { cls := .type "slice", data := .fields #[.none, .int j ui, .none] }, toks := t0 } := by
  subst hj
  exact slice_strN_ns (s := { s with heap := hp, toks := t0 }) hF hN (fun h' t' k' F' N' => h h' t' k' _ (tl_slice_neg h0 hk) (by rw [← tl_len, tl_slice_neg h0 hk, List.length_take, tl_len]; lia) F' N') hs ht (by rw [sizeLine_eq]; lia)
/-- a text's truth, by two ways -/
theorem g_strtrue2 {z : Str} {Q : Bool → Shared → Prop} (hz : z.length ≤ 1000) (h1 : 0 < z.length → ∀ tk, Q true { s with toks := tk }) (h0 : z.length = 0 → ∀ tk, Q false { s with toks := tk }) : wpAny (model prog w) A (PySem.truthy (.str z t)) Q E s := by
  refine g_strtrue hz fun tk => ?_
  by_cases q : z.length = 0
  · have : ((z.length : Int) != 0) = false := by simp [q]
    rw [this]; exact h0 q tk
  · have : ((z.length : Int) != 0) = true := by simp; lia
    rw [this]; exact h1 (by lia) tk
theorem g_int0 {j : Int} {Q : Bool → Shared → Prop} (hj : j = 0) (h : Q false s) : wpAny (model prog w) A (PySem.truthy (.int j t)) Q E s := PyProof.Rows.truthy_int (by rw [hj]; exact h)
theorem g_int1 {j : Int} {Q : Bool → Shared → Prop} (hj : j ≠ 0) (h : Q true s) : wpAny (model prog w) A (PySem.truthy (.int j t)) Q E s := by
  refine PyProof.Rows.truthy_int ?_
  have : (j != 0) = true := by simp [hj]
  rw [this]; exact h
theorem g_strpos {z : Str} {Q : Bool → Shared → Prop} (h0 : 0 < z.length) (hz : z.length ≤ 1000) (h : ∀ tk, Q true { s with toks := tk }) : wpAny (model prog w) A (PySem.truthy (.str z t)) Q E s :=
  g_strtrue2 hz (fun _ => h) fun q => by lia
end
end
section
open PySem PySem.W PyProof.Rows
section
variable {prog : Program} {w : World} {A : Around} {E : Value → Shared → Prop} {Q : Flow → Shared → Prop} {s : Shared} {env : Env} {h₀ : Heap}
/-- a loop turn by turn, any target: the ledger keeps its places -/
theorem unr_st {σ : Type} {target : Expr} {body : List Stmt} {fp : List Addr} {n : Nat} {Pv : Nat → Value → Prop}
    (ps : σ → List (Str × Value)) (Led : σ → List (Addr × Obj)) (P : Nat → σ → Prop) (ad : List Addr)
    (turn : ∀ i v (c : σ) (u : Str → Option Value) h tk own (Qn : Shared → Prop), i < n → Pv i v → P i c → (Led c).map (·.1) = ad → (∀ p ∈ own, p.1 ∈ fp) →
      Fr h₀ env.locals h (kstB u (ps c)) → News h₀ env.locals h (Led c ++ own) →
      (∀ (c' : σ) (u' : Str → Option Value) h' tk' news', P (i + 1) c' → (Led c').map (·.1) = ad → Fr h₀ env.locals h' u' → (∀ p ∈ ps c', u' p.1 = some p.2) → News h₀ env.locals h' news' → (∀ p ∈ Led c' ++ own, p ∈ news') → Qn { s with heap := h', toks := tk' }) →
      wpAny (model prog w) A (assign target env v) (fun _ s₂ => wpAny (model prog w) A (execs body env) (FlowPost Q Qn) E s₂) E { s with heap := h, toks := tk })
    (done : ∀ (c : σ) (u : Str → Option Value) h tk, P n c → Fr h₀ env.locals h (kstB u (ps c)) → News h₀ env.locals h (Led c) → Q .next { s with heap := h, toks := tk }) :
    ∀ k i (c : σ) (u : Str → Option Value), k + i = n → P i c → (Led c).map (·.1) = ad → (∀ p ∈ ps c, u p.1 = some p.2) → Unr prog w A E h₀ env target body Q Pv fp s k i u (Led c)
  | 0, i, c, u, e, hp, _, hk => by
    have e' : i = n := by lia
    subst e'
    exact .zero fun h' tk F N => done c u h' tk hp (kst_self F hk) N
  | k + 1, i, c, u, e, hp, ha, hk => by
    refine .succ fun v h₁ tk₁ own hv hown F₁ N₁ => ?_
    refine wpAny_mono (turn i v c u h₁ tk₁ own (fun s₃ => LoopStep2 h₀ env.locals own (Led c) (Unr prog w A E h₀ env target body Q Pv fp s k (i + 1)) { s with heap := h₁, toks := tk₁ } .next s₃) (by lia) hv hp ha hown (kst_self F₁ hk)
      (fun p hp => N₁ p ((List.mem_append.mp hp).elim (fun q => List.mem_append_right _ q) fun q => List.mem_append_left _ q)) ?_) (fun _ s₂ q => wpAny_mono q (fun f s₃ r => ?_) fun _ _ x => x) fun _ _ x => x
    · intro c' u' h' tk' news' hp' ha' F' hk' N' hs'
      exact ⟨rfl, h', tk', u', Led c', rfl, F', News.sub N' fun p hp => hs' p ((List.mem_append.mp hp).elim (fun q => List.mem_append_right _ q) fun q => List.mem_append_left _ q), ha'.trans ha.symm,
        unr_st ps Led P ad turn done k (i + 1) c' u' (by lia) hp' ha' hk'⟩
    · cases f with
      | ret v => exact .ret r
      | brk => exact .brk r
      | next => exact .next r
      | cont => exact .cont r
/-- over a range, the target any name -/
theorem iter_rangeT_st {σ : Type} {x : Str} {px : Pos} {body : List Stmt} {r : Addr} {a₀ b₀ c₁ : Int} {t₀ u₀ v₀ : Tok} {n : Nat} {m₀ : Str → Option Value} {news : List (Addr × Obj)}
    (ps : σ → List (Str × Value)) (Led : σ → List (Addr × Obj)) (P : Nat → σ → Prop) (c₀ : σ)
    (hh : A.handled = none) (hr : IsRange s.heap r a₀ b₀ c₁ t₀ u₀ v₀) (hsmall : Builtin.Range.small a₀ b₀ c₁ = true) (hn : Builtin.Range.rangeSize a₀ b₀ c₁ = (n : Int)) (F : Fr h₀ env.locals s.heap m₀) (N : News h₀ env.locals s.heap news)
    (hN : ∀ p ∈ Led c₀, p ∈ news) (hk : ∀ p ∈ ps c₀, m₀ p.1 = some p.2) (hp : P 0 c₀)
    (turn : ∀ I i t (c : σ) (u : Str → Option Value) h tk own (Qn : Shared → Prop), (∀ p ∈ news, p.1 < I) → i < n → P i c → (∀ p ∈ Led c, p.1 ≠ I) → (∀ p ∈ own, p.1 = I) → (Led c).map (·.1) = (Led c₀).map (·.1) →
      Fr h₀ env.locals h (kstB u (ps c)) → News h₀ env.locals h (Led c ++ own) →
      (∀ (c' : σ) (u' : Str → Option Value) h' tk' news', P (i + 1) c' → (Led c').map (·.1) = (Led c₀).map (·.1) → Fr h₀ env.locals h' u' → (∀ p ∈ ps c', u' p.1 = some p.2) → News h₀ env.locals h' news' → (∀ p ∈ Led c' ++ own, p ∈ news') → Qn { s with heap := h', toks := tk' }) →
      wpAny (model prog w) A (assign (.Name x px) env (.int (a₀ + (i : Int) * c₁) t)) (fun _ s₂ => wpAny (model prog w) A (execs body env) (FlowPost Q Qn) E s₂) E { s with heap := h, toks := tk })
    (done : ∀ (c : σ) (u : Str → Option Value) h tk, P n c → Fr h₀ env.locals h (kstB u (ps c)) → News h₀ env.locals h (Led c) → Q .next { s with heap := h, toks := tk }) :
    wpAny (model prog w) A (pyIter (.ref r)) (fun it s₂ => UnrAt prog w A h₀ env (.Name x px) body Q E it s₂) E s := by
  refine wpAny_pyIter_range hr hsmall ?_
  have W : Walks prog w A s.heap.objs.size [s.heap.objs.size] [s.heap.objs.size] n (fun i v => i < n ∧ ∃ t, v = .int (a₀ + i * c₁) t)
      (fun i h => IsRangeIter h s.heap.objs.size (a₀ + (i : Nat) * c₁) ((n : Int) - (i : Nat)) c₁) := (Walks.range hh _ a₀ c₁ n).bound
  have hnI : ∀ p ∈ news, p.1 < s.heap.objs.size := fun p hp => Heap.lt_size (N p hp).1
  have hLI : env.locals ≠ s.heap.objs.size := fun e => absurd F.ns.lt (e ▸ Nat.lt_irrefl _)
  refine ⟨_, _, _, n, _, _, m₀, Led c₀, rfl, W, ?_, ?_, ?_, (by show IsRangeIter _ _ _ _ _; rw [hn]; simpa using Heap.get?_push_size _ rfl), F.push _, fun p hp => ⟨Heap.get?_push_of_some _ (N p (hN p hp)).1, (N p (hN p hp)).2⟩, ?_, ?_⟩
  · intro hm
    exact hLI (List.mem_singleton.mp hm)
  · intro b hb
    rw [List.mem_singleton.mp hb]
    exact next_is_new F
  · intro p hp hI
    exact absurd (hnI p (hN p hp)) (List.mem_singleton.mp hI ▸ Nat.lt_irrefl _)
  · intro i s' v Q' _ h
    exact wpAny_pure h
  · refine unr_st (s := { s with heap := s.heap.push _ }) ps Led P ((Led c₀).map (·.1)) ?_ (fun c u h tk => done c u h tk) n 0 c₀ m₀ rfl hp rfl hk
    rintro i v c u h tk own Qn hi ⟨_, t, rfl⟩ hpc ha hown F₁ N₁ hQn
    refine turn s.heap.objs.size i t c u h tk own Qn hnI hi hpc (fun p hp e => ?_) (fun p hp => List.mem_singleton.mp (hown p hp)) ha F₁ N₁ hQn
    have hm : p.1 ∈ (Led c₀).map (·.1) := ha ▸ List.mem_map.mpr ⟨p, hp, rfl⟩
    obtain ⟨q, hq, eq⟩ := List.mem_map.mp hm
    exact absurd (hnI q (hN q hq)) (by rw [eq, e]; exact Nat.lt_irrefl _)
end
end
section
open PySem PySem.W PyProof.Rows PyProof.Rows.LCg
section
variable {prog : Program} {w : World} {A : Around} {E : Value → Shared → Prop} {s : Shared} {env : Env} {h₀ : Heap} {L : Addr} {m : Str → Option Value} {elt : Expr} {x : Str} {scope : Scope} {cl : List (Str × Addr)}
theorem off1_mem {D : Addr} : ∀ {l : List (Addr × Obj)}, Off1 D l → ∀ p ∈ l, p.1 ≠ D
  | [], _, _, h => nomatch h
  | _ :: _, x, p, h => by
    rcases List.mem_cons.mp h with rfl | h
    · exact x.1
    · exact off1_mem x.2 p h
theorem rest_st {σ : Type} {S : List (Addr × Obj) → Prop} {Pv : Nat → Value → Prop} {Fin : List Value → List (Addr × Obj) → Prop} (Led : σ → List (Addr × Obj)) (P : Nat → List Value → σ → Prop) (hS : ∀ c, S (Led c)) (n : Nat)
    (turn : ∀ i v ys c I oI C oC D m₂ h tk (E' : Value → Shared → Prop) (Qe : Value → Shared → Prop), i < n → Pv i v → P i ys c → NsObj oC m₂ → m₂ x = some v → Fr h₀ L h m → News h₀ L h ((I, oI) :: (C, oC) :: (D, lst ys) :: Led c) → Off3 I C D (Led c) → ((@Ne Nat I C) ∧ (@Ne Nat I D) ∧ (@Ne Nat C D)) →
      (∀ y c' h' tk', P (i + 1) (ys ++ [y]) c' → Fr h₀ L h' m → News h₀ L h' ((I, oI) :: (C, oC) :: (D, lst ys) :: Led c') → Off3 I C D (Led c') → Qe y { s with heap := h', toks := tk' }) →
      wpAny (model prog w) A (eval elt (compEnvC scope cl C env)) Qe E' { s with heap := h, toks := tk })
    (fin : ∀ ys c, P n ys c → Fin ys (Led c)) :
    ∀ k i ys c, k + i = n → P i ys c → CompRest prog w A h₀ L m env elt x scope cl s S Pv Fin k i ys (Led c)
  | 0, i, ys, c, e, hp => by
    have e' : i = n := by lia
    subst e'; exact .zero (fin ys c hp)
  | k + 1, i, ys, c, e, hp => .succ fun v I oI C oC D m₂ h tk E' hv ho hx F N off ne =>
    turn i v ys c I oI C oC D m₂ h tk E' _ (by lia) hv hp ho hx F N off ne fun y c' h' tk' hp' F' N' off' =>
      ⟨h', tk', Led c', rfl, F', N', off', hS c', rest_st Led P hS n turn fin k (i + 1) (ys ++ [y]) c' (by lia) hp'⟩
abbrev CompTurn (prog : Program) (w : World) (A : Around) (h₀ : Heap) (L : Addr) (m : Str → Option Value) (env : Env) (elt : Expr) (x : Str) (scope : Scope) (cl : List (Str × Addr)) (s : Shared) {σ : Type} (Led : σ → List (Addr × Obj)) (P : Nat → List Value → σ → Prop) (n : Nat) (Pv : Nat → Value → Prop) : Prop :=
  ∀ i v ys c I oI C oC D m₂ h tk (E' : Value → Shared → Prop) (Qe : Value → Shared → Prop), i < n → Pv i v → P i ys c → NsObj oC m₂ → m₂ x = some v → Fr h₀ L h m → News h₀ L h ((I, oI) :: (C, oC) :: (D, lst ys) :: Led c) → Off3 I C D (Led c) → ((@Ne Nat I C) ∧ (@Ne Nat I D) ∧ (@Ne Nat C D)) →
      (∀ y c' h' tk', P (i + 1) (ys ++ [y]) c' → Fr h₀ L h' m → News h₀ L h' ((I, oI) :: (C, oC) :: (D, lst ys) :: Led c') → Off3 I C D (Led c') → Qe y { s with heap := h', toks := tk' }) →
      wpAny (model prog w) A (eval elt (compEnvC scope cl C env)) Qe E' { s with heap := h, toks := tk }
/-- over a list of the ledger, as a value -/
theorem compL_st {σ : Type} {Q : Value → Shared → Prop} {ax : Addr} {vs : List Value} {k : Nat} (Led : σ → List (Addr × Obj)) (P : Nat → List Value → σ → Prop) (c₀ : σ) (hh : A.handled = none) (F : Fr h₀ L s.heap m) (N : News h₀ L s.heap (Led c₀))
    (hm : ∀ c, (ax, listOf vs.toArray k) ∈ Led c) (hz : vs.length ≤ 1000) (h0 : P 0 [] c₀)
    (turn : ∀ g, CompTurn prog w A h₀ L m env elt x scope cl { s with heap := g } Led P vs.length (fun i v => vs[i]? = some v))
    (fin : ∀ ys c D h tk, P vs.length ys c → Fr h₀ L h m → News h₀ L h ((D, lst ys) :: Led c) → (∀ p ∈ Led c, p.1 ≠ D) → Q (.ref D) { s with heap := h, toks := tk }) :
    CompSrc prog w A h₀ L m env elt x scope cl (fun s₂ => FinE h₀ L m s₂ Q) (.ref ax) s := by
  refine CompSrc.ledger hh F N (hm c₀) (by rw [List.size_toArray, sizeLine_eq]; lia) fun g => ?_
  rw [List.size_toArray]
  exact rest_st Led P (fun c => .inr ⟨_, hm c, rfl, _, rfl⟩) vs.length (fun i v ys c I oI C oC D m₂ h tk E' Qe a b => turn g i v ys c I oI C oC D m₂ h tk E' Qe a (by simpa using b)) (fun ys c hp D h tk F' N' off => fin ys c D h tk hp F' N' (off1_mem off)) vs.length 0 [] c₀ rfl h0
theorem compLA_st {σ : Type} {Q : Flow → Shared → Prop} {y : Str} {ax : Addr} {vs : List Value} {k : Nat} (Led : σ → List (Addr × Obj)) (P : Nat → List Value → σ → Prop) (c₀ : σ) (hh : A.handled = none) (F : Fr h₀ L s.heap m) (N : News h₀ L s.heap (Led c₀))
    (hm : ∀ c, (ax, listOf vs.toArray k) ∈ Led c) (hz : vs.length ≤ 1000) (h0 : P 0 [] c₀)
    (turn : ∀ g, CompTurn prog w A h₀ L m env elt x scope cl { s with heap := g } Led P vs.length (fun i v => vs[i]? = some v))
    (fin : ∀ ys c D h tk, P vs.length ys c → Fr h₀ L h (fun z => if z = y then some (.ref D) else m z) → News h₀ L h ((D, lst ys) :: Led c) → (∀ p ∈ Led c, p.1 ≠ D) → Q .next { s with heap := h, toks := tk }) :
    CompSrc prog w A h₀ L m env elt x scope cl (fun s₂ => FinA h₀ L m s₂ y Q) (.ref ax) s := by
  refine CompSrc.ledger hh F N (hm c₀) (by rw [List.size_toArray, sizeLine_eq]; lia) fun g => ?_
  rw [List.size_toArray]
  exact rest_st Led P (fun c => .inr ⟨_, hm c, rfl, _, rfl⟩) vs.length (fun i v ys c I oI C oC D m₂ h tk E' Qe a b => turn g i v ys c I oI C oC D m₂ h tk E' Qe a (by simpa using b)) (fun ys c hp D h tk F' N' off => fin ys c D h tk hp F' N' (off1_mem off)) vs.length 0 [] c₀ rfl h0
/-- over range(n) -/
theorem compR_st {σ : Type} {Q : Value → Shared → Prop} {r : Addr} {b : Int} {n : Nat} {t u v : Tok} (Led : σ → List (Addr × Obj)) (P : Nat → List Value → σ → Prop) (c₀ : σ) (hh : A.handled = none) (F : Fr h₀ L s.heap m) (N : News h₀ L s.heap (Led c₀))
    (hr : IsRange s.heap r 0 b 1 t u v) (hn : b = (n : Int)) (hz : n ≤ 1000) (h0 : P 0 [] c₀)
    (turn : ∀ g, CompTurn prog w A h₀ L m env elt x scope cl { s with heap := g } Led P n (fun i v => ∃ t, v = .int (i : Int) t))
    (fin : ∀ ys c D h tk, P n ys c → Fr h₀ L h m → News h₀ L h ((D, lst ys) :: Led c) → (∀ p ∈ Led c, p.1 ≠ D) → Q (.ref D) { s with heap := h, toks := tk }) :
    CompSrc prog w A h₀ L m env elt x scope cl (fun s₂ => FinE h₀ L m s₂ Q) (.ref r) s := by
  subst hn
  refine CompSrc.range (n := n) hh F N hr (PySem.small_one (by lia) (by lia) (by lia) (by lia)) (by rw [PySem.rangeSize_one]; split <;> lia) (by rw [sizeLine_eq]; lia) fun g => ?_
  exact rest_st Led P (fun c => trivial) n (fun i v ys c I oI C oC D m₂ h tk E' Qe a b => turn g i v ys c I oI C oC D m₂ h tk E' Qe a (by obtain ⟨t, e⟩ := b; exact ⟨t, by rw [e, Int.zero_add]⟩)) (fun ys c hp D h tk F' N' off => fin ys c D h tk hp F' N' (off1_mem off)) n 0 [] c₀ rfl h0
theorem compRA_st {σ : Type} {Q : Flow → Shared → Prop} {y : Str} {r : Addr} {b : Int} {n : Nat} {t u v : Tok} (Led : σ → List (Addr × Obj)) (P : Nat → List Value → σ → Prop) (c₀ : σ) (hh : A.handled = none) (F : Fr h₀ L s.heap m) (N : News h₀ L s.heap (Led c₀))
    (hr : IsRange s.heap r 0 b 1 t u v) (hn : b = (n : Int)) (hz : n ≤ 1000) (h0 : P 0 [] c₀)
    (turn : ∀ g, CompTurn prog w A h₀ L m env elt x scope cl { s with heap := g } Led P n (fun i v => ∃ t, v = .int (i : Int) t))
    (fin : ∀ ys c D h tk, P n ys c → Fr h₀ L h (fun z => if z = y then some (.ref D) else m z) → News h₀ L h ((D, lst ys) :: Led c) → (∀ p ∈ Led c, p.1 ≠ D) → Q .next { s with heap := h, toks := tk }) :
    CompSrc prog w A h₀ L m env elt x scope cl (fun s₂ => FinA h₀ L m s₂ y Q) (.ref r) s := by
  subst hn
  refine CompSrc.range (n := n) hh F N hr (PySem.small_one (by lia) (by lia) (by lia) (by lia)) (by rw [PySem.rangeSize_one]; split <;> lia) (by rw [sizeLine_eq]; lia) fun g => ?_
  exact rest_st Led P (fun c => trivial) n (fun i v ys c I oI C oC D m₂ h tk E' Qe a b => turn g i v ys c I oI C oC D m₂ h tk E' Qe a (by obtain ⟨t, e⟩ := b; exact ⟨t, by rw [e, Int.zero_add]⟩)) (fun ys c hp D h tk F' N' off => fin ys c D h tk hp F' N' (off1_mem off)) n 0 [] c₀ rfl h0
end
end
section
open PySem PySem.W PyProof.Rows
theorem lpick_to {vs : List Value} {k : Nat} : (slicePick vs.toArray none (some (k : Int)) none).toList = vs.take k := by
  have e : sliceBounds none (some (k : Int)) none vs.toArray.size = (((0 : Nat) : Int), ((min k vs.toArray.size : Nat) : Int), 1) := by
    simp only [sliceBounds, Option.getD_none, show (1 : Int) > 0 by decide, if_true, if_neg (show ¬ ((k : Int) < 0) by omega)]
    congr 1
    congr 1
    omega
  rw [kmk_pick_nat _ e]
  show (vs.drop 0).take (min k vs.toArray.size - 0) = _
  rw [List.drop_zero, Nat.sub_zero, List.size_toArray, kmk_take_min]
theorem lpick_from {vs : List Value} {k : Nat} : (slicePick vs.toArray (some (k : Int)) none none).toList = vs.drop k := by
  have e : sliceBounds (some (k : Int)) none none vs.toArray.size = (((min k vs.toArray.size : Nat) : Int), ((vs.toArray.size : Nat) : Int), 1) := by
    simp only [sliceBounds, Option.getD_none, show (1 : Int) > 0 by decide, if_true, if_neg (show ¬ ((k : Int) < 0) by omega)]
    congr 1
    omega
  rw [kmk_pick_nat _ e]
  show (vs.drop (min k vs.toArray.size)).take (vs.toArray.size - min k vs.toArray.size) = _
  rw [List.size_toArray, kmk_drop_min, List.take_of_length_le (by rw [List.length_drop]; omega)]
section
variable {prog : Program} {w : World} {A : Around} {E : Value → Shared → Prop} {s : Shared} {h₀ : Heap} {L l : Addr} {m : Str → Option Value} {news : List (Addr × Obj)} {vs : List Value} {n : Nat} {Q : Value → Shared → Prop} {value slice : PySem.Expr}
theorem ledL {h : Heap} (N : News h₀ L h news) (hm : (l, listOf vs.toArray n) ∈ news) : h.IsList l vs.toArray := ⟨_, (N _ hm).1, rfl, n, rfl⟩
theorem g_lfrom {k : Nat} {j : Int} {ui : Tok} {hp : Heap} {t0 : Nat} (F : Fr h₀ L hp m) (N : News h₀ L hp news) (hm : (l, listOf vs.toArray n) ∈ news) (hj : j = (k : Int)) (hz : vs.length ≤ 1000)
    (h : ∀ D h' tk, Fr h₀ L h' m → News h₀ L h' ((D, listOf (vs.drop k).toArray 0) :: news) → (∀ p ∈ news, p.1 < D) → Q (.ref D) { s with heap := h', toks := tk })
    (hs : subscripted slice false (.ref l) (.ref hp.objs.size) = operate [.ref hp.objs.size, .ref l] (getItem (.ref l) (.ref hp.objs.size))) (ht : ∀ r, letTemporaryGo value (.ref l) r = pure ()) :
    wpAny (model prog w) A (subscriptTail value slice (.ref l) (.ref hp.objs.size)) Q E { s with heap := hp.push { cls := .type "slice", data := .fields #[.int j ui, .none, .none] }, toks := t0 } := by
  subst hj
  exact kmk_slice_lit (s := { s with heap := hp, toks := t0 }) F N (ledL N hm) (.int ..) .none lpick_from (fun D h' F' N' l1 => h D h' _ F' N' l1) hs ht (by rw [List.size_toArray, sizeLine_eq]; omega)
theorem g_lto {k : Nat} {j : Int} {ui : Tok} {hp : Heap} {t0 : Nat} (F : Fr h₀ L hp m) (N : News h₀ L hp news) (hm : (l, listOf vs.toArray n) ∈ news) (hj : j = (k : Int)) (hz : vs.length ≤ 1000)
    (h : ∀ D h' tk, Fr h₀ L h' m → News h₀ L h' ((D, listOf (vs.take k).toArray 0) :: news) → (∀ p ∈ news, p.1 < D) → Q (.ref D) { s with heap := h', toks := tk })
    (hs : subscripted slice false (.ref l) (.ref hp.objs.size) = operate [.ref hp.objs.size, .ref l] (getItem (.ref l) (.ref hp.objs.size))) (ht : ∀ r, letTemporaryGo value (.ref l) r = pure ()) :
    wpAny (model prog w) A (subscriptTail value slice (.ref l) (.ref hp.objs.size)) Q E { s with heap := hp.push { cls := .type "slice", data := .fields #[.none, .int j ui, .none] }, toks := t0 } := by
  subst hj
  exact kmk_slice_lit (s := { s with heap := hp, toks := t0 }) F N (ledL N hm) .none (.int ..) lpick_to (fun D h' F' N' l1 => h D h' _ F' N' l1) hs ht (by rw [List.size_toArray, sizeLine_eq]; omega)
theorem g_sum {ns : List Int} (hh : A.handled = none) (F : Fr h₀ L s.heap m) (N : News h₀ L s.heap news) (hm : (l, listOf vs.toArray n) ∈ news) (hi : IntsAre vs ns)
    (h : ∀ h' tk t', Fr h₀ L h' m → News h₀ L h' news → Q (.int ns.sum t') { s with heap := h', toks := tk }) : wpAny (model prog w) A (call (.builtin "sum") [.ref l]) Q E s :=
  sumK hh F N (ledL N hm) hi h
theorem g_sortrev {ns : List Int} (F : Fr h₀ L s.heap m) (N : News h₀ L s.heap news) (hm : (l, listOf vs.toArray n) ∈ news) (hi : IntsAre vs ns) (hz : vs.length < 64)
    (h : ∀ h' tk D vs' ns' e, Fr h₀ L h' m → News h₀ L h' ((D, listOf vs'.toArray e) :: news) → (∀ p ∈ news, p.1 < D) → IntsAre vs' ns' → ns'.Perm ns → ns'.Pairwise (· ≥ ·) → Q (.ref D) { s with heap := h', toks := tk }) :
    wpAny (model prog w) A (call (.builtin "sorted") [.ref l] [(Str.ofString "reverse", .bool true)]) Q E s :=
  sorted_N_rev F N (ledL N hm) hi hz fun h' vs' ns' e F' N' hi' hp ho => h h' _ _ vs' ns' e F' N' (fun p hp => Nat.lt_succ_of_lt (Heap.lt_size (N p hp).1)) hi' hp (by simpa [Ordered] using ho)
end
end
section
open PySem PySem.W PyProof.Rows
section
variable {prog : Program} {w : World} {A : Around} {E : Value → Shared → Prop} {s : Shared} {h₀ : Heap} {L l : Addr} {m : Str → Option Value} {news : List (Addr × Obj)} {vs : List Value} {n : Nat} {Q : Value → Shared → Prop} {value slice : PySem.Expr}
theorem g_step {its : List Value} {j c : Int} {tj tc : Tok} {ops : List Value} {hp : Heap} {t0 : Nat} (F : Fr h₀ L hp m) (N : News h₀ L hp news) (hl : hp.IsList l its.toArray) (h0 : some c ≠ some 0)
    (h : ∀ D h' tk, Fr h₀ L h' m → News h₀ L h' ((D, listOf (slicePick its.toArray (some j) none (some c)).toList.toArray 0) :: news) → (∀ p ∈ news, p.1 < D) → Q (.ref D) { s with heap := h', toks := tk })
    (hs : subscripted slice false (.ref l) (.ref hp.objs.size) = operate ops (getItem (.ref l) (.ref hp.objs.size))) (ht : ∀ r, letTemporaryGo value (.ref l) r = pure ()) (hz : its.length ≤ 1000) :
    wpAny (model prog w) A (subscriptTail value slice (.ref l) (.ref hp.objs.size)) Q E { s with heap := hp.push { cls := .type "slice", data := .fields #[.int j tj, .none, .int c tc] }, toks := t0 } :=
  kmk_slice3_lit (s := { s with heap := hp, toks := t0 }) F N hl (.int ..) .none (.int ..) h0 rfl (fun D h' F' N' l1 => h D h' _ F' N' l1) hs ht (by rw [List.size_toArray, sizeLine_eq]; lia)
theorem g_append {D : Addr} {y : Value} {news' : List (Addr × Obj)} (F : Fr h₀ L s.heap m) (N : News h₀ L s.heap news) (U : Upd D (listOf vs.toArray n) (listOf (vs ++ [y]).toArray (n + 1)) news news') (hz : vs.length ≤ 1000)
    (h : ∀ h', Fr h₀ L h' m → News h₀ L h' news' → Q .none { s with heap := h' }) : wpAny (model prog w) A (call (.builtin "list.append") [.ref D, y]) Q E s :=
  append_K F N (by rw [show vs.toArray.push y = (vs ++ [y]).toArray by simp]; exact U) h (by rw [List.size_toArray, sizeLine_eq]; lia)
theorem g_cintN {env : Env} {x : Int} {k : Nat} {pos : Pos} (h : ∀ t tk, Q (.int x t) { s with toks := tk + 1 }) : wpAny (model prog w) A (eval (.Constant (.int x) k pos) env) Q E s := wpAny_Constant_int (h _ _)
theorem g_item_nats {ws : List Nat} {k : Nat} {u : Tok} (N : News h₀ L s.heap news) (hm : (l, listOf vs.toArray n) ∈ news) (hI : IntsAre vs (ws.map fun (x : Nat) => (x : Int))) (h1 : k < ws.length) (h2 : ws.length ≤ 1000)
    (h : ∀ t, Q (.int ((ws.getD k 0 : Nat) : Int) t) s)
    (hs : subscripted slice false (.ref l) (.int (k : Int) u) = operate [.ref l, .int (k : Int) u] (getItem (.ref l) (.int (k : Int) u)) := by with_unfolding_all rfl) :
    wpAny (model prog w) A (subscriptTail value slice (.ref l) (.int (k : Int) u)) Q E s := by
  have hk : k < (ws.map fun (x : Nat) => (x : Int)).length := by rw [List.length_map]; exact h1
  obtain ⟨t, ht⟩ := hI.get k _ (List.getElem?_eq_getElem hk)
  refine item_led (k := (k : Int)) N hm (by lia) (by lia) (by rw [Int.toNat_natCast]; exact ht) ?_ hs
  have := h t
  rwa [List.getD_eq_getElem?_getD, List.getElem?_eq_getElem h1, Option.getD_some, ← List.getElem_map (fun (x : Nat) => (x : Int)) (h := hk)] at this
theorem g_item_strs {ss : List Str} {k : Int} {u : Tok} (N : News h₀ L s.heap news) (hm : (l, listOf vs.toArray n) ∈ news) (hS : StrsAre vs ss) (h0 : 0 ≤ k) (h1 : k < ss.length) (h2 : ss.length ≤ 1000)
    (h : ∀ t, Q (.str (ss.getD k.toNat (Str.ofString "")) t) s)
    (hs : subscripted slice false (.ref l) (.int k u) = operate [.ref l, .int k u] (getItem (.ref l) (.int k u)) := by with_unfolding_all rfl) :
    wpAny (model prog w) A (subscriptTail value slice (.ref l) (.int k u)) Q E s := by
  have hk : k.toNat < ss.length := by lia
  obtain ⟨t, ht⟩ := hS.get k.toNat _ (List.getElem?_eq_getElem hk)
  refine item_led N hm h0 (by lia) ht ?_ hs
  have := h t
  rwa [List.getD_eq_getElem?_getD, List.getElem?_eq_getElem hk] at this
theorem g_addstr {x y : Str} {t u : Tok} (hz : x.length + y.length ≤ 100000) (h : ∀ t' k, Q (.str (x ++ y) t') { s with toks := k }) : wpAny (model prog w) A (binaryOp .Add (.str x t) (.str y u)) Q E s :=
  SBL.add (fun t' k _ => h t' k) (by rw [sizeLine_eq]; lia)
theorem tl_app (x y : Str) : tl (x ++ y) = tl x ++ tl y := by simp [tl, Str.cps_append]
theorem tl_low : ∀ j : Nat, j < 5 → tl (Txt.item (Str.ofString "abcde") (j : Int)) = [97 + j] ∧ (Txt.item (Str.ofString "abcde") (j : Int)).length = 1 := by decide +kernel
theorem tl_up : ∀ j : Nat, j < 5 → tl (Txt.item (Str.ofString "ABCDE") (j : Int)) = [65 + j] ∧ (Txt.item (Str.ofString "ABCDE") (j : Int)).length = 1 := by decide +kernel
theorem tl_getD {ss : List Str} {j : Nat} (d : Str) (h : j < ss.length) : tl (ss.getD j d) = (ss.map tl).getD j [] := by
  rw [List.getD_eq_getElem?_getD, List.getD_eq_getElem?_getD, List.getElem?_map, List.getElem?_eq_getElem h]; rfl
theorem strs_snoc {ys : List Value} {ss : List Str} {x : Str} {t : Tok} (h : StrsAre ys ss) : StrsAre (ys ++ [.str x t]) (ss ++ [x]) := h.append' (.cons _ _ .nil)
theorem off_nil {d : Addr} : ∀ p ∈ ([] : List (Addr × Obj)), p.1 ≠ d := fun _ h => nomatch h
theorem off_cons {d : Addr} {q : Addr × Obj} {r : List (Addr × Obj)} (h : q.1 ≠ d) (t : ∀ p ∈ r, p.1 ≠ d) : ∀ p ∈ q :: r, p.1 ≠ d := fun p hp => by
  rcases List.mem_cons.mp hp with rfl | hp
  · exact h
  · exact t p hp
theorem nd_cons {q : Addr × Obj} {r : List (Addr × Obj)} (h : ∀ p ∈ r, p.1 ≠ q.1) (t : (r.map (·.1)).Nodup) : ((q :: r).map (·.1)).Nodup := by
  rw [List.map_cons, List.nodup_cons]
  refine ⟨fun hm => ?_, t⟩
  obtain ⟨p, hp, e⟩ := List.mem_map.mp hm
  exact h p hp e
theorem row_turn {h : Heap} {q p1 p2 p3 : Addr × Obj} {c base : List (Addr × Obj)} (N : News h₀ L h (q :: p1 :: p2 :: p3 :: (c ++ base))) : News h₀ L h (p1 :: p2 :: p3 :: ((q :: c) ++ base)) := Mine.News.sub N fun p hp => by
  simp only [List.cons_append, List.mem_cons] at hp ⊢
  rcases hp with h | h | h | h | h
  · exact .inr (.inl h)
  · exact .inr (.inr (.inl h))
  · exact .inr (.inr (.inr (.inl h)))
  · exact .inl h
  · exact .inr (.inr (.inr (.inr h)))
theorem nd_off {S : Addr} {l : List (Addr × Obj)} (h : (S :: l.map (·.1)).Nodup) : ∀ p ∈ l, p.1 ≠ S := fun p hp e => (List.nodup_cons.mp h).1 (List.mem_map.mpr ⟨p, hp, e⟩)
theorem nd_new {S D : Addr} {o : Obj} {l : List (Addr × Obj)} (h : (S :: l.map (·.1)).Nodup) (hS : S < D) (hl : ∀ p ∈ l, p.1 < D) : (S :: ((D, o) :: l).map (·.1)).Nodup := by
  obtain ⟨h1, h2⟩ := List.nodup_cons.mp h
  rw [List.map_cons]
  refine List.nodup_cons.mpr ⟨fun hm => ?_, List.nodup_cons.mpr ⟨fun hm => ?_, h2⟩⟩
  · rcases List.mem_cons.mp hm with e | hm
    · exact Nat.lt_irrefl _ (e ▸ hS)
    · exact h1 hm
  · obtain ⟨p, hp, e⟩ := List.mem_map.mp hm
    exact Nat.lt_irrefl _ (e ▸ hl p hp)
theorem off_ne {D x : Addr} {o : Obj} {l : List (Addr × Obj)} (h : ∀ p ∈ l, p.1 ≠ D) (hm : (x, o) ∈ l) : D ≠ x := fun e => h _ hm e.symm
theorem take_snoc {α : Type} {l : List α} {j : Nat} {d : α} (h : j < l.length) : l.take (j + 1) = l.take j ++ [l.getD j d] := by
  rw [List.take_add_one, List.getD_eq_getElem?_getD, List.getElem?_eq_getElem h]; rfl
theorem fresh_ne {D x : Addr} {o : Obj} {l : List (Addr × Obj)} (h : ∀ p ∈ l, p.1 < D) (hm : (x, o) ∈ l) : D ≠ x := Nat.ne_of_gt (h _ hm)
end
end
section
open PySem PySem.W PyProof.Rows PySem.Flt
def divF (a b : Int) : UInt64 := Float64.ofFrac (decide (a < 0) != decide (b < 0)) a.natAbs b.natAbs
section
variable {prog : Program} {w : World} {A : Around} {E : Value → Shared → Prop} {s : Shared} {Q : Value → Shared → Prop}
theorem g_div {a b : Int} {t u : Tok} (h0 : 0 ≤ a) (ha : a < 1000) (hb : 0 < b) (hs : s.toks ≠ 0) (h : ∀ t' tk, t' ≠ 0 → Q (.float (divF a b) t') { s with toks := tk }) (hA : A.handled = none := by rfl) : wpAny (model prog w) A (binaryOp .Div (.int a t) (.int b u)) Q E s :=
  div_ii_fits hA (by have : a.natAbs < 2 ^ 10 := by lia
                     exact Nat.lt_of_lt_of_le this (Nat.pow_le_pow_right (by decide) (by decide))) (fun e => absurd e (by lia)) fun _ _ => h _ _ hs
end
/-! the colours: eight hues, four shares, five values -/
def hF (k : Nat) : UInt64 := divF (k : Int) 8
def sF (p : Nat) : UInt64 := divF (p : Int) 4
def vF (w : Nat) : UInt64 := divF ((w : Int) + 1) 8
def lF (p w : Nat) : UInt64 := divF (((w + 1) * (8 - p) : Nat) : Int) 64
def col (k p w : Nat) : UInt64 × UInt64 × UInt64 := rgbP (hF k) (sF p) (vF w)
def colOk (k p w : Nat) : Bool :=
  let (r, g, b) := col k p w
  !Float64.isZero (Float64.add (max3 r g b) (min3 r g b)) && !Float64.isZero (Float64.sub (max3 r g b) (min3 r g b)) && !Float64.isZero (Float64.sub (Float64.sub 4611686018427387904 (max3 r g b)) (min3 r g b))
  && lP r g b == lF p w && hueP r g b == hF k && shareP r g b == sF p && max3 r g b == vF w && !Float64.isZero (max3 r g b) && !(Float64.cmp (min3 r g b) (max3 r g b) == some Ordering.eq)
theorem col_ok0 : ∀ p, p < 4 → ∀ w, w < 5 → colOk 0 (p + 1) w = true := by decide +kernel
theorem col_ok1 : ∀ p, p < 4 → ∀ w, w < 5 → colOk 1 (p + 1) w = true := by decide +kernel
theorem col_ok2 : ∀ p, p < 4 → ∀ w, w < 5 → colOk 2 (p + 1) w = true := by decide +kernel
theorem col_ok3 : ∀ p, p < 4 → ∀ w, w < 5 → colOk 3 (p + 1) w = true := by decide +kernel
theorem col_ok4 : ∀ p, p < 4 → ∀ w, w < 5 → colOk 4 (p + 1) w = true := by decide +kernel
theorem col_ok5 : ∀ p, p < 4 → ∀ w, w < 5 → colOk 5 (p + 1) w = true := by decide +kernel
theorem col_ok6 : ∀ p, p < 4 → ∀ w, w < 5 → colOk 6 (p + 1) w = true := by decide +kernel
theorem col_ok7 : ∀ p, p < 4 → ∀ w, w < 5 → colOk 7 (p + 1) w = true := by decide +kernel
theorem col_ok : ∀ k, k < 8 → ∀ p, p < 4 → ∀ w, w < 5 → colOk k (p + 1) w = true
  | 0, _ => col_ok0
  | 1, _ => col_ok1
  | 2, _ => col_ok2
  | 3, _ => col_ok3
  | 4, _ => col_ok4
  | 5, _ => col_ok5
  | 6, _ => col_ok6
  | 7, _ => col_ok7
def hueOk (k : Nat) : Bool := !Float64.isNaN (Float64.mul (hF k) 4618441417868443648) && !Float64.isInf (Float64.mul (hF k) 4618441417868443648) && decide ((iP (hF k)).natAbs < 100)
theorem hue_ok : ∀ k, k < 8 → hueOk k = true := by decide +kernel
theorem hue_oks {k : Nat} (h : k < 8) : (¬ Float64.isNaN (Float64.mul (hF k) 4618441417868443648) = true) ∧ (¬ Float64.isInf (Float64.mul (hF k) 4618441417868443648) = true) ∧ (iP (hF k)).natAbs < 100 := by
  have := hue_ok k h
  unfold hueOk at this
  simp only [Bool.and_eq_true, Bool.not_eq_true', decide_eq_true_eq] at this
  obtain ⟨⟨a, b⟩, c⟩ := this
  exact ⟨by rw [a]; decide, by rw [b]; decide, c⟩
theorem share_ok : ∀ p, p < 4 → ¬ (Float64.cmp (sF (p + 1)) 0 == some Ordering.eq) = true := by decide +kernel
theorem l_lt : ∀ p, p < 4 → ∀ v, v < 5 → ∀ w, w < 5 → ltF (lF (p + 1) v) (lF (p + 1) w) = decide (v < w) := by decide +kernel
def backOk (k : Nat) : Bool := !Float64.isNaN (Float64.mul (hF k) (Float64.ofInt 8)) && !Float64.isInf (Float64.mul (hF k) (Float64.ofInt 8)) && (toInt Float64.truncOf (Float64.mul (hF k) (Float64.ofInt 8)) == (k : Int))
theorem back_ok : ∀ k, k < 8 → backOk k = true := by decide +kernel
def valOk (w : Nat) : Bool := !Float64.isNaN (Float64.mul (vF w) (Float64.ofInt 8)) && !Float64.isInf (Float64.mul (vF w) (Float64.ofInt 8)) && (toInt Float64.truncOf (Float64.mul (vF w) (Float64.ofInt 8)) == (w : Int) + 1)
theorem val_ok : ∀ w, w < 5 → valOk w = true := by decide +kernel
theorem val_less : ∀ w, w < 4 → Float64.sub (vF (w + 1)) 4593671619917905920 = vF w := by decide +kernel
theorem dim_eq {p : Nat} (h : p ≤ 4) : divF (8 - (p : Int)) 64 = lF p 0 := by
  unfold lF
  congr 1
  lia
end
section
open PySem PySem.W PyProof.Rows PySem.Flt
/-- a lamp of the shelf: its place and its wish -/
def LampIs (news : List (Addr × Obj)) (v : Value) (c : UInt64 × UInt64 × UInt64) : Prop := ∃ (x : Addr) (tr tg tb : Tok), (tr ≠ 0 ∧ tg ≠ 0 ∧ tb ≠ 0) ∧ v = .ref x ∧ (x, tupO [.float c.1 tr, .float c.2.1 tg, .float c.2.2 tb]) ∈ news
def Shelf (news : List (Addr × Obj)) (vs : List Value) (sh : List (Nat × Nat)) (st pa : Nat) : Prop :=
  vs.length = sh.length ∧ (∀ p ∈ sh, p.1 < 5 ∧ p.2 < 5) ∧ ∀ (i : Nat) v p, vs[i]? = some v → sh[i]? = some p → LampIs news v (col ((st + p.1) % 8) pa p.2)
theorem Shelf.nil {news : List (Addr × Obj)} {st pa : Nat} : Shelf news [] [] st pa := ⟨rfl, (fun _ h => nomatch h), by intro i v p h; simp at h⟩
/-- to the right of the equal ones -/
def posP (sh : List (Nat × Nat)) (w : Nat) : Nat := sh.findIdx fun q => decide (w < q.2)
def insP (sh : List (Nat × Nat)) (p : Nat × Nat) : List (Nat × Nat) := sh.take (posP sh p.2) ++ p :: sh.drop (posP sh p.2)
def shelfP (ws : List Nat) : List (Nat × Nat) := (ws.zipIdx.map fun p => (p.2, p.1)).foldl insP []
theorem LampIs.mono {news news' : List (Addr × Obj)} {v : Value} {c : UInt64 × UInt64 × UInt64} (h : LampIs news v c) (hs : ∀ p ∈ news, p ∈ news') : LampIs news' v c := by
  obtain ⟨x, a, b, d, n, e, hm⟩ := h
  exact ⟨x, a, b, d, n, e, hs _ hm⟩
theorem Shelf.mono {news news' : List (Addr × Obj)} {vs : List Value} {sh : List (Nat × Nat)} {st pa : Nat} (h : Shelf news vs sh st pa) (hs : ∀ p ∈ news, p ∈ news') : Shelf news' vs sh st pa :=
  ⟨h.1, h.2.1, fun i v p a b => (h.2.2 i v p a b).mono hs⟩
theorem col_facts {k p w : Nat} (hk : k < 8) (hp : p < 4) (hw : w < 5) : ∀ r g b, col k (p + 1) w = (r, g, b) →
    LampZ r g b ∧ lP r g b = lF (p + 1) w ∧ hueP r g b = hF k ∧ shareP r g b = sF (p + 1) ∧ max3 r g b = vF w ∧ (¬ Float64.isZero (max3 r g b) = true) ∧ ¬ (Float64.cmp (min3 r g b) (max3 r g b) == some Ordering.eq) = true := by
  intro r g b e
  have := col_ok k hk p hp w hw
  unfold colOk at this
  rw [e] at this
  simp only [Bool.and_eq_true, Bool.not_eq_true', beq_iff_eq] at this
  obtain ⟨⟨⟨⟨⟨⟨⟨⟨a1, a2⟩, a3⟩, a4⟩, a5⟩, a6⟩, a7⟩, a8⟩, a9⟩ := this
  exact ⟨⟨by rw [a1]; decide, by rw [a2]; decide, by rw [a3]; decide⟩, a4, a5, a6, a7, by rw [a8]; decide, by rw [a9]; decide⟩
theorem lampAt_of {news : List (Addr × Obj)} {v : Value} {k p w : Nat} (h : LampIs news v (col k (p + 1) w)) (hk : k < 8) (hp : p < 4) (hw : w < 5) : LampAt news v (lF (p + 1) w) := by
  obtain ⟨x, a, b, d, _, e, hm⟩ := h
  obtain ⟨z, l, _⟩ := col_facts hk hp hw _ _ _ rfl
  exact ⟨x, _, _, _, a, b, d, e, hm, z, l⟩
theorem Shelf.lamps {news : List (Addr × Obj)} {vs : List Value} {sh : List (Nat × Nat)} {st pa : Nat} (h : Shelf news vs sh st (pa + 1)) (hp : pa < 4) : Lamps news vs (sh.map fun p => lF (pa + 1) p.2) := by
  refine ⟨by rw [List.length_map, h.1], fun i v l hv hl => ?_⟩
  rw [List.getElem?_map] at hl
  cases hs : sh[i]? with
  | none => rw [hs] at hl; cases hl
  | some p =>
    rw [hs] at hl
    have e : lF (pa + 1) p.2 = l := Option.some.inj hl
    rw [← e]
    exact lampAt_of (h.2.2 i v p hv hs) (Nat.mod_lt _ (by decide)) hp (h.2.1 p (List.mem_of_getElem? hs)).2
def SortP (sh : List (Nat × Nat)) : Prop := sh.Pairwise fun p q => p.2 ≤ q.2
theorem pos_of {sh : List (Nat × Nat)} {pa w : Nat} (hb : ∀ p ∈ sh, p.1 < 5 ∧ p.2 < 5) (hp : pa < 4) (hw : w < 5) : (sh.map fun p => lF (pa + 1) p.2).findIdx (ltF (lF (pa + 1) w)) = posP sh w := by
  unfold posP
  induction sh with
  | nil => rfl
  | cons q r ih =>
    rw [List.map_cons, List.findIdx_cons, List.findIdx_cons, ih fun p h => hb p (.tail _ h), l_lt pa hp w hw q.2 (hb q (.head _)).2]
theorem mono_of {sh : List (Nat × Nat)} {pa w : Nat} (hb : ∀ p ∈ sh, p.1 < 5 ∧ p.2 < 5) (hp : pa < 4) (hw : w < 5) (hs : SortP sh) : ∀ (i j : Nat) li lj, i ≤ j → (sh.map fun p => lF (pa + 1) p.2)[i]? = some li → (sh.map fun p => lF (pa + 1) p.2)[j]? = some lj → ltF (lF (pa + 1) w) li = true → ltF (lF (pa + 1) w) lj = true := by
  intro i j li lj hij hi hj h
  rw [List.getElem?_map] at hi hj
  cases ei : sh[i]? with
  | none => rw [ei] at hi; cases hi
  | some p =>
    cases ej : sh[j]? with
    | none => rw [ej] at hj; cases hj
    | some q =>
      rw [ei] at hi; rw [ej] at hj
      have hi := Option.some.inj hi; have hj := Option.some.inj hj
      rw [← hi, l_lt pa hp w hw p.2 (hb p (List.mem_of_getElem? ei)).2, decide_eq_true_eq] at h
      rw [← hj, l_lt pa hp w hw q.2 (hb q (List.mem_of_getElem? ej)).2, decide_eq_true_eq]
      rcases Nat.lt_or_eq_of_le hij with hlt | he
      · obtain ⟨h1, e1⟩ := List.getElem?_eq_some_iff.mp ei
        obtain ⟨h2, e2⟩ := List.getElem?_eq_some_iff.mp ej
        have := List.pairwise_iff_getElem.mp hs i j h1 h2 hlt
        rw [e1, e2] at this
        lia
      · subst he; rw [ei] at ej; rw [← Option.some.inj ej]; exact h
theorem pos_le {sh : List (Nat × Nat)} {w : Nat} : posP sh w ≤ sh.length := List.findIdx_le_length
theorem insP_mem {sh : List (Nat × Nat)} {p q : Nat × Nat} : q ∈ insP sh p ↔ q = p ∨ q ∈ sh := by
  unfold insP
  rw [List.mem_append, List.mem_cons]
  constructor
  · rintro (h | h | h)
    · exact .inr (List.mem_of_mem_take h)
    · exact .inl h
    · exact .inr (List.mem_of_mem_drop h)
  · rintro (h | h)
    · exact .inr (.inl h)
    · rw [← List.take_append_drop (posP sh p.2) sh] at h
      rcases List.mem_append.mp h with h | h
      · exact .inl h
      · exact .inr (.inr h)
theorem insP_perm {sh : List (Nat × Nat)} {p : Nat × Nat} : (insP sh p).Perm (p :: sh) := by
  have := List.perm_middle (a := p) (l₁ := sh.take (posP sh p.2)) (l₂ := sh.drop (posP sh p.2))
  rwa [List.take_append_drop] at this
theorem insP_sort {sh : List (Nat × Nat)} {p : Nat × Nat} (h : SortP sh) : SortP (insP sh p) := by
  unfold SortP insP
  have h0 := h
  rw [SortP, ← List.take_append_drop (posP sh p.2) sh, List.pairwise_append] at h
  obtain ⟨h1, h2, h3⟩ := h
  rw [List.pairwise_append, List.pairwise_cons]
  have hl : ∀ q ∈ sh.take (posP sh p.2), q.2 ≤ p.2 := fun q hq => by
    obtain ⟨i, hi, e⟩ := List.mem_take_iff_getElem.mp hq
    have hi' : i < posP sh p.2 := Nat.lt_of_lt_of_le hi (Nat.min_le_left _ _)
    have := List.not_of_lt_findIdx hi'
    rw [← e]
    simpa using this
  have hr : ∀ q ∈ sh.drop (posP sh p.2), p.2 ≤ q.2 := fun q hq => by
    obtain ⟨j, hj, e⟩ := List.mem_iff_getElem.mp hq
    rw [List.length_drop] at hj
    have hlt : posP sh p.2 < sh.length := by lia
    have h5 : p.2 < (sh[posP sh p.2]).2 := by
      exact of_decide_eq_true (List.findIdx_getElem (p := fun q : Nat × Nat => decide (p.2 < q.2)) (xs := sh) (w := hlt))
    rw [List.getElem_drop] at e
    rw [← e]
    rcases Nat.eq_or_lt_of_le (Nat.le_add_right (posP sh p.2) j) with e9 | hlt9
    · simp only [← e9]; lia
    · have := List.pairwise_iff_getElem.mp h0 _ _ hlt (by lia) hlt9
      lia
  refine ⟨h1, ⟨fun q hq => hr q hq, h2⟩, fun a ha b hb => ?_⟩
  rcases List.mem_cons.mp hb with rfl | hb
  · exact hl a ha
  · exact h3 a ha b hb
theorem ins_get {α : Type} {l : List α} {k : Nat} {x : α} (hk : k ≤ l.length) (i : Nat) : (l.take k ++ x :: l.drop k)[i]? = if i < k then l[i]? else if i = k then some x else l[i - 1]? := by
  have hl : (l.take k).length = k := by rw [List.length_take]; lia
  rw [List.getElem?_append, hl]
  split
  · rename_i h; rw [List.getElem?_take, if_pos h]
  · split
    · rename_i h; subst h; simp
    · rename_i h1 h2
      obtain ⟨j, rfl⟩ : ∃ j, i = k + 1 + j := ⟨i - k - 1, by lia⟩
      rw [show k + 1 + j - k = j + 1 by lia, List.getElem?_cons_succ, List.getElem?_drop]
      congr 1; lia
theorem Shelf.ins {news : List (Addr × Obj)} {vs : List Value} {sh : List (Nat × Nat)} {st pa nm wi : Nat} {v : Value} (h : Shelf news vs sh st pa) (hv : LampIs news v (col ((st + nm) % 8) pa wi)) (h1 : nm < 5) (h2 : wi < 5) :
    Shelf news (insAt vs (posP sh wi) v) (insP sh (nm, wi)) st pa := by
  have hk : posP sh wi ≤ sh.length := pos_le
  have hk' : posP sh wi ≤ vs.length := by rw [h.1]; exact hk
  refine ⟨?_, fun p hp => ?_, fun i v' p hi hp => ?_⟩
  · unfold insAt insP; rw [List.length_append, List.length_append, List.length_cons, List.length_cons, List.length_take, List.length_take, List.length_drop, List.length_drop, h.1]
  · rcases insP_mem.mp hp with rfl | hp
    · exact ⟨h1, h2⟩
    · exact h.2.1 p hp
  · unfold insAt at hi; unfold insP at hp
    rw [ins_get hk'] at hi
    rw [ins_get (k := posP sh (nm, wi).2) hk] at hp
    split at hi
    · rename_i q; rw [if_pos q] at hp; exact h.2.2 i v' p hi hp
    · rename_i q; rw [if_neg q] at hp
      split at hi
      · rename_i q2; rw [if_pos q2] at hp
        rw [← Option.some.inj hi, ← Option.some.inj hp]; exact hv
      · rename_i q2; rw [if_neg q2] at hp; exact h.2.2 (i - 1) v' p hi hp
theorem shelf_succ {ws : List Nat} {i : Nat} (h : i < ws.length) : shelfP (ws.take (i + 1)) = insP (shelfP (ws.take i)) (i, ws.getD i 0) := by
  unfold shelfP
  rw [take_snoc (d := 0) h, List.zipIdx_append, List.map_append, List.foldl_append]
  have e : (ws.take i).length = i := by rw [List.length_take]; lia
  rw [e]
  rw [Nat.zero_add]
  rfl
theorem insP_len {sh : List (Nat × Nat)} {p : Nat × Nat} : (insP sh p).length = sh.length + 1 := insP_perm.length_eq
theorem shelf_len {ws : List Nat} : (shelfP ws).length = ws.length := by
  unfold shelfP
  have : ∀ (l : List (Nat × Nat)) (a : List (Nat × Nat)), (l.foldl insP a).length = a.length + l.length := by
    intro l
    induction l with
    | nil => exact fun a => rfl
    | cons q r ih => intro a; rw [List.foldl_cons, ih, insP_len, List.length_cons]; lia
  rw [this, List.length_map, List.length_zipIdx, List.length_nil, Nat.zero_add]
theorem shelf_sort {ws : List Nat} : SortP (shelfP ws) := by
  unfold shelfP
  generalize (ws.zipIdx.map fun p => (p.2, p.1)) = l
  have : ∀ (l : List (Nat × Nat)) (a : List (Nat × Nat)), SortP a → SortP (l.foldl insP a) := by
    intro l
    induction l with
    | nil => exact fun a h => h
    | cons q r ih => exact fun a h => ih _ (insP_sort h)
  exact this l [] List.Pairwise.nil
end
section
open PySem PySem.W PyProof.Rows PySem.Flt
theorem cut_at : ∀ {l : List Value} {k : Nat} (h : k < l.length), kl_cut l k = some (l.take k, l[k], l.drop (k + 1))
  | [], _, h => absurd h (Nat.not_lt_zero _)
  | x :: r, 0, _ => rfl
  | x :: r, k + 1, h => by
    unfold kl_cut
    rw [cut_at (l := r) (k := k) (Nat.lt_of_succ_lt_succ h)]
    rfl
theorem seq_at {i n : Nat} (h : i < n) : seqIndex? (i : Int) n = some i := by
  have h1 : ¬ ((i : Int) < 0) := by lia
  have h2 : (0 : Int) ≤ (i : Int) := by lia
  have h3 : (i : Int) < (n : Int) := by lia
  simp [seqIndex?, h1, h2, h3]
section
variable {prog : Program} {w : World} {A : Around} {E : Value → Shared → Prop} {s : Shared} {h₀ : Heap} {L D : Addr} {m : Str → Option Value} {news news' : List (Addr × Obj)} {n : Nat} {Q : Value → Shared → Prop}
theorem g_titem {value slice : PySem.Expr} {vs : List Value} {k : Int} {u : Tok} {j : Nat} {x : Value} {l : Addr} (N : News h₀ L s.heap news) (hm : (l, tupO vs) ∈ news) (hlo : -(2 ^ 63) ≤ k) (hhi : k < 2 ^ 63) (hj : seqIndex? k vs.length = some j) (hx : vs[j]? = some x) (h : Q x s)
    (hs : subscripted slice false (.ref l) (.int k u) = operate [.ref l, .int k u] (getItem (.ref l) (.int k u))) : wpAny (model prog w) A (subscriptTail value slice (.ref l) (.int k u)) Q E s :=
  item_tupleT (l := vs) ⟨_, (N _ hm).1, rfl, 0, rfl⟩ hlo hhi hj hx h hs
theorem g_pop {vs : List Value} {x : Int} {i : Nat} {u : Tok} {y : Value} (F : Fr h₀ L s.heap m) (N : News h₀ L s.heap news) (hx : x = (i : Int)) (hv : vs[i]? = some y) (hz : vs.length ≤ 100) (U : Upd D (listOf vs.toArray n) (listOf (vs.eraseIdx i).toArray (n + 1)) news news')
    (h : ∀ h', Fr h₀ L h' m → News h₀ L h' news' → Q y { s with heap := h' }) : wpAny (model prog w) A (call (.builtin "list.pop") [.ref D, .int x u]) Q E s := by
  subst hx
  obtain ⟨hi, rfl⟩ := List.getElem?_eq_some_iff.mp hv
  refine kl_popAt (its := vs.toArray) (n := n) F N (fits_nat (by lia)) (seq_at (by simpa using hi)) (cut_at hi) ?_ (by rw [sizeLine_eq]; simp; lia) h
  rw [← List.eraseIdx_eq_take_drop_succ]
  exact U
theorem g_mulfi {x : UInt64} {t u : Tok} (hA : A.handled = none) (h : ∀ t' tk, Q (.float (Float64.mul x (Float64.ofInt 8)) t') { s with toks := tk }) : wpAny (model prog w) A (binaryOp .Mult (.float x t) (.int 8 u)) Q E s :=
  mul_fi_sharp hA (fun q => absurd q (by have : Int.natAbs 8 < 2 ^ 1024 - 2 ^ 970 := by decide +kernel
                                         exact Nat.not_le.mpr this)) fun _ => h _ _
theorem g_inthue {k : Nat} {t : Tok} (hA : A.handled = none) (hk : k < 8) (h : ∀ t' tk, Q (.int (k : Int) t') { s with toks := tk }) : wpAny (model prog w) A (call (.type "int") [.float (Float64.mul (hF k) (Float64.ofInt 8)) t]) Q E s := by
  have := back_ok k hk
  unfold backOk at this
  generalize Float64.mul (hF k) (Float64.ofInt 8) = z at this ⊢
  simp only [Bool.and_eq_true, Bool.not_eq_true', beq_iff_eq] at this
  obtain ⟨⟨a, a'⟩, b⟩ := this
  refine call_int_float3 hA (fun c => ?_) (fun c => ?_) (fun _ => by rw [b]; exact h _ _)
  · rw [a] at c; cases c
  · rw [a'] at c; cases c
theorem g_intval {k : Nat} {t : Tok} (hA : A.handled = none) (hk : k < 5) (h : ∀ t' tk, Q (.int ((k : Int) + 1) t') { s with toks := tk }) : wpAny (model prog w) A (call (.type "int") [.float (Float64.mul (vF k) (Float64.ofInt 8)) t]) Q E s := by
  have := val_ok k hk
  unfold valOk at this
  generalize Float64.mul (vF k) (Float64.ofInt 8) = z at this ⊢
  simp only [Bool.and_eq_true, Bool.not_eq_true', beq_iff_eq] at this
  obtain ⟨⟨a, a'⟩, b⟩ := this
  refine call_int_float3 hA (fun c => ?_) (fun c => ?_) (fun _ => by rw [b]; exact h _ _)
  · rw [a] at c; cases c
  · rw [a'] at c; cases c
end
section
variable {w : World} {mean : ExcName → Option Value} {mg mb : Str → Option Value} {dp un : Nat} {gd : Option (List Code)} {cn : Str} {cs : Scope} {a : Addr} {ccd : Value} {cl : List (Str × Addr)} {outer : List Env} {A₀ : Around} {base h₀ : Heap} {L : Addr} {m : Str → Option Value} {news : List (Addr × Obj)} {s : Shared} {Q E : Value → Shared → Prop}
/-- rgb_to_hsv of a lamp tells its colour -/
theorem c_hsvL {r g b : UInt64} {tr tg tb : Tok} {k p v : Nat} (B : Below A₀ base outer h₀) (F : Fr h₀ L s.heap m) (X : (Mine.hd.heap_39 w.params).In h₀) (N : News h₀ L s.heap news) (T : Top Mine.hd.view_39 looseL mean mg mb h₀) (hk : cs.kind = .function) (hd : dp + 3 < recursionLimit)
    (e : col k (p + 1) v = (r, g, b)) (h1 : k < 8) (h2 : p < 4) (h3 : v < 5) (hn : tr ≠ 0 ∧ tg ≠ 0 ∧ tb ≠ 0)
    (hret : ∀ D h' tk t1 t2 t3, (t1 ≠ 0 ∧ t2 ≠ 0 ∧ t3 ≠ 0) → Fr h₀ L h' m → News h₀ L h' ((D, tupO [.float (hF k) t1, .float (sF (p + 1)) t2, .float (vF v) t3]) :: news) → (∀ p ∈ news, p.1 < D) → Q (.ref D) { s with heap := h', toks := tk }) :
    wpAny (model Challenge.rw_sc0061_01.row.prog w) (ktrTop dp un gd cn cs L a ccd cl outer) (call (.ref 45) [.float r tr, .float g tg, .float b tb]) Q E s := by
  obtain ⟨z, _, e1, e2, e3, z1, z3⟩ := col_facts h1 h2 h3 _ _ _ e
  refine c_hsv B F X N T hk hd z1 z.2.1 z3 hn.1 hn.2.1 hn.2.2 fun D h' tk H t1 t2 t3 n1 n2 n3 eH F' N' l' => ?_
  rw [← eH, e1, e2, e3] at N'
  exact hret D h' tk t1 t2 t3 ⟨n1, n2, n3⟩ F' N' l'
end
end
section
open PySem PySem.W PyProof.Rows PySem.Flt PySem.SeqAt
set_option maxRecDepth 100000
theorem strKeys_nil : ∀ x ∈ ([] : List DictEntry), ∃ n t, x.key = .str n t := fun _ h => nomatch h
theorem strKeys_cons {e : DictEntry} {l : List DictEntry} (h : ∃ n t, e.key = .str n t) (r : ∀ e ∈ l, ∃ n t, e.key = .str n t) : ∀ x ∈ e :: l, ∃ n t, x.key = .str n t := List.forall_mem_cons.mpr ⟨h, r⟩
theorem strKeys_of {l : List DictEntry} (r : ∀ e ∈ l, ∃ n t, e.key = .str n t) : StrKeys l.toArray := fun e h => r e (by simpa using h)
theorem none_booked {p : Params} {h : Heap} (X : (Mine.hd.heap_39 p).In h) : NoneBooked h := by
  obtain ⟨o, ho, es, ep, hd, hs, hf⟩ : ∃ o, (Mine.hd.heap_39 p).lookup 2 = some o ∧ ∃ es ep, o.data = .dict (List.toArray es) ep ∧ StrKeys (List.toArray es) ∧ nsFind (List.toArray es) sharingNotToldKey = none := by
    refine ⟨_, rfl, _, _, rfl, strKeys_of ?_, ?_⟩
    · repeat' (first | exact strKeys_nil | (refine strKeys_cons ⟨_, _, rfl⟩ ?_))
    · rfl
  exact ⟨_, ⟨o, _, ep, X _ _ ho, hd, hs, fun _ => rfl⟩, hf⟩
section
variable {prog : Program} {w : World} {A : Around} {E : Value → Shared → Prop} {s : Shared} {h₀ : Heap} {L : Addr} {m : Str → Option Value} {news : List (Addr × Obj)}
theorem booked_fr {p : Params} (F : Fr h₀ L s.heap m) (X : (Mine.hd.heap_39 p).In h₀) : NoneBooked s.heap := none_booked fun a o e => F.keep _ _ (X a o e)
theorem isSame_float {x y : UInt64} {u v : Tok} {Q : Bool → Shared → Prop} (h1 : u ≠ 0) (h2 : v ≠ 0) (hb : NoneBooked s.heap) (hq : ∀ b, Q b s) : wpAny (model prog w) A (isSame (.float x u) (.float y v)) Q E s := by
  show wpAny _ A (isSame.created (x == y && !Float64.isNaN x) u v) Q E s
  have h0 : (u == 0 || v == 0) = false := by simp [h1, h2]
  unfold isSame.created
  refine wpAny_ite ?_
  split
  · rename_i h; rw [h0] at h; exact absurd h Bool.false_ne_true
  refine wpAny_ite ?_
  split
  · exact wpAny_pure (hq _)
  refine wpAny_ite ?_
  split
  · exact wpAny_pure (hq _)
  refine wpAny_bind (wpAny_sharingNotTold_none hb ?_)
  first | rw [if_neg Bool.false_ne_true] | simp only [Bool.false_eq_true, if_false]
  refine wpAny_bind (wpAny_sharingNotTold_none hb ?_)
  first | rw [if_neg Bool.false_ne_true] | simp only [Bool.false_eq_true, if_false]
  exact wpAny_bind (wpAny_rule (wpAny_bind (wpAny_askSetting (wpAny_pure (hq _)))))
theorem rc_float {x y : UInt64} {u v : Tok} : RcAt A s (.float x u) (.float y v) (Float64.cmp x y == some Ordering.eq) := fun prog w E Q h =>
  richCompare_gives (typeIs_float s x u) (typeIs_float s y v) F.slot_float_eq F.entry_float_eq (F.args_float_eq_2 _ _) (AutoFloatG5.float___eq___float_float_0 x u y v) (by simp [Made.takes]) h
theorem eqAt_float {x y : UInt64} {u v : Tok} (he : (Float64.cmp x y == some Ordering.eq) = true) (h1 : u ≠ 0) (h2 : v ≠ 0) (hb : NoneBooked s.heap) : EqAt A s (.float x u) (.float y v) true := fun prog w E Q h => by
  unfold eqBool
  refine wpAny_holding ?_
  refine wpAny_ite_split (fun _ => wpAny_bind (wpAny_rule (wpAny_pure h))) (fun _ => ?_)
  refine wpAny_bind (isSame_float h1 h2 hb fun b => ?_)
  refine wpAny_ite_split (fun _ => wpAny_pure h) (fun _ => ?_)
  refine wpAny_bind (rc_float (A := A) prog w E _ ?_)
  rw [he]
  exact wpAny_truthy_bool h
theorem g_setnat {vs : List Value} {tw : List Nat} {D : Addr} {n k x : Nat} {t u : Tok} {news' : List (Addr × Obj)} {Q : Unit → Shared → Prop} (F : Fr h₀ L s.heap m) (N : News h₀ L s.heap news) (U : Upd D (listOf vs.toArray n) (listOf (vs.set k (.int (x : Int) u)).toArray n) news news') (hi : IntsAre vs (tw.map fun (x : Nat) => (x : Int))) (h1 : k < tw.length) (hz : tw.length ≤ 1000)
    (h : ∀ h', Fr h₀ L h' m → News h₀ L h' news' → IntsAre (vs.set k (.int (x : Int) u)) ((tw.set k x).map fun (x : Nat) => (x : Int)) → Q () { s with heap := h' }) :
    wpAny (model prog w) A (setItem (.ref D) (.int (k : Int) t) (.int (x : Int) u)) Q E s :=
  ksa_set (k := (k : Int)) F N (by rw [Int.toNat_natCast]; exact U) hi (by lia) (by rw [List.length_map]; lia) (by lia) fun h' F' N' hI _ _ => h h' F' N' (by rw [Int.toNat_natCast] at hI; rw [List.map_set]; exact hI)
theorem h_self : ∀ k, k < 8 → (Float64.cmp (hF k) (hF k) == some Ordering.eq) = true := by decide +kernel
theorem s_self : ∀ k, k < 4 → (Float64.cmp (sF (k + 1)) (sF (k + 1)) == some Ordering.eq) = true := by decide +kernel
theorem v_self : ∀ k, k < 5 → (Float64.cmp (vF k) (vF k) == some Ordering.eq) = true := by decide +kernel
theorem g_neq3 {p : Params} {a b : Addr} {k q v : Nat} {x y z : UInt64} {t1 t2 t3 u1 u2 u3 : Tok} {Q : Value → Shared → Prop} (F : Fr h₀ L s.heap m) (X : (Mine.hd.heap_39 p).In h₀) (N : News h₀ L s.heap news) (hu : A.units < cLine)
    (ha : (a, tupO [.float (hF k) t1, .float (sF (q + 1)) t2, .float (vF v) t3]) ∈ news) (hb : (b, tupO [.float x u1, .float y u2, .float z u3]) ∈ news) (e1 : x = hF k) (e2 : y = sF (q + 1)) (e3 : z = vF v) (hk : k < 8) (hq : q < 4) (hv : v < 5)
    (n : t1 ≠ 0 ∧ t2 ≠ 0 ∧ t3 ≠ 0) (n1 : u1 ≠ 0) (n2 : u2 ≠ 0) (n3 : u3 ≠ 0) (h : Q (.bool false) s) : wpAny (model prog w) A (compareOp .NotEq (.ref a) (.ref b)) Q E s := by
  subst e1 e2 e3
  have hbk := booked_fr F X
  refine (RcNeAt.tuples (A := A) (s := s) (items := #[.float (hF k) t1, .float (sF (q + 1)) t2, .float (vF v) t3]) (items2 := #[.float (hF k) u1, .float (sF (q + 1)) u2, .float (vF v) u3]) (e := fun _ => true) ⟨_, (N _ ha).1, rfl, 0, rfl⟩ ⟨_, (N _ hb).1, rfl, 0, rfl⟩ hu ?_) prog w E Q h
  intro j h1 h2
  match j, h1 with
  | 0, _ => exact eqAt_float (h_self k hk) n.1 n1 hbk
  | 1, _ => exact eqAt_float (s_self q hq) n.2.1 n2 hbk
  | 2, _ => exact eqAt_float (v_self v hv) n.2.2 n3 hbk
end
end
section
open PySem PySem.W PyProof.Rows PySem.Flt PySem.SeqAt
theorem upd_app {D : Addr} {o o' : Obj} {l l' r : List (Addr × Obj)} (U : Upd D o o' l l') (h : ∀ p ∈ r, p.1 ≠ D) : Upd D o o' (l ++ r) (l' ++ r) := by
  induction U with
  | head k => exact .head fun p hp => (List.mem_append.mp hp).elim (k p) (h p)
  | tail k _ ih => exact .tail k ih
theorem upd_zip {D : Addr} {o o' : Obj} : ∀ {ra : List Addr} {rc : List Obj} {i : Nat}, ra.Nodup → ra[i]? = some D → rc[i]? = some o → Upd D o o' (ra.zip rc) (ra.zip (rc.set i o'))
  | [], _, _, _, h, _ => by simp at h
  | _ :: _, [], _, _, _, h => by simp at h
  | a :: ra, c :: rc, 0, hn, h1, h2 => by
    have e1 : a = D := Option.some.inj h1
    have e2 : c = o := Option.some.inj h2
    subst e1 e2
    refine .head fun p hp => ?_
    obtain ⟨hn1, _⟩ := List.nodup_cons.mp hn
    exact fun e => hn1 (e ▸ (List.of_mem_zip (a := p.1) (b := p.2) hp).1)
  | a :: ra, c :: rc, i + 1, hn, h1, h2 => by
    obtain ⟨hn1, hn2⟩ := List.nodup_cons.mp hn
    refine .tail (fun e => hn1 ?_) (upd_zip hn2 h1 h2)
    have e' : a = D := e
    rw [e']; exact List.mem_of_getElem? h1
section
variable {prog : Program} {w : World} {A : Around} {E : Value → Shared → Prop} {s : Shared} {h₀ : Heap} {L l : Addr} {m : Str → Option Value} {news news' : List (Addr × Obj)} {n : Nat}
theorem g_item_refs {value slice : PySem.Expr} {Q : Value → Shared → Prop} {ra : List Addr} {k : Nat} {u : Tok} (N : News h₀ L s.heap news) (hm : (l, listOf (ra.map Value.ref).toArray n) ∈ news) (h1 : k < ra.length) (h2 : ra.length ≤ 1000)
    (h : Q (.ref (ra.getD k 0)) s)
    (hs : subscripted slice false (.ref l) (.int (k : Int) u) = operate [.ref l, .int (k : Int) u] (getItem (.ref l) (.int (k : Int) u)) := by with_unfolding_all rfl) :
    wpAny (model prog w) A (subscriptTail value slice (.ref l) (.int (k : Int) u)) Q E s := by
  refine item_led (k := (k : Int)) (v := .ref (ra.getD k 0)) N hm (by lia) (by lia) ?_ h hs
  rw [Int.toNat_natCast, List.getElem?_map, List.getElem?_eq_getElem h1, List.getD_eq_getElem?_getD, List.getElem?_eq_getElem h1]; rfl
theorem strs_set : ∀ {vs : List Value} {ss : List Str} (k : Nat) (x : Str) (u : Tok), StrsAre vs ss → StrsAre (vs.set k (.str x u)) (ss.set k x)
  | _, _, _, _, _, .nil => .nil
  | _, _, 0, x, u, .cons _ _ h => .cons x u h
  | _, _, k + 1, x, u, .cons y t h => .cons y t (strs_set k x u h)
theorem g_setv {vs : List Value} {D : Addr} {k : Nat} {y : Value} {t : Tok} {Q : Unit → Shared → Prop} (F : Fr h₀ L s.heap m) (N : News h₀ L s.heap news) (U : Upd D (listOf vs.toArray n) (listOf (vs.set k y).toArray n) news news') (h1 : k < vs.length) (hz : vs.length ≤ 1000)
    (h : ∀ h', Fr h₀ L h' m → News h₀ L h' news' → Q () { s with heap := h' }) :
    wpAny (model prog w) A (setItem (.ref D) (.int (k : Int) t) y) Q E s := by
  obtain ⟨pre, post, rfl, rfl, a, b⟩ := U.split
  have z := N (D, listOf vs.toArray n) (List.mem_append.mpr (.inr (.head _)))
  refine ki_setAt z.1 (by lia) (by lia) (by rw [List.size_toArray]; lia) (h _ (F.change (Heap.SameBut.update ..) z.2.1 z.2.2) (ki_turn _ N a b ?_ ?_))
  · rw [Int.toNat_natCast]
    apply Array.toList_inj.mp
    simp
  · simp
end
end
section
open PySem PySem.W PyProof.Rows PySem.Flt PySem.SeqAt
/-! the words: great letters for the lamps that one is linked to -/
def rowT (r : Nat → Bool) : List (List Nat) := (List.range 5).map fun j => [if r j = true then 65 + j else 97 + j]
def RowIs (o : Obj) (r : Nat → Bool) : Prop := ∃ us ss, o = listOf (List.toArray us) 0 ∧ StrsAre us ss ∧ ss.map tl = rowT r
def Rows (rc : List Obj) (G : Nat → Nat → Bool) : Prop := rc.length = 5 ∧ ∀ k o, rc[k]? = some o → RowIs o (G k)
def link (G : Nat → Nat → Bool) (a b : Nat) : Nat → Nat → Bool := fun i j => G i j || (i == a && j == b) || (i == b && j == a)
theorem rowT_set {r : Nat → Bool} {j : Nat} (h : j < 5) : (rowT r).set j [65 + j] = rowT fun i => r i || i == j := by
  match j, h with
  | 0, _ => simp [rowT, List.range_succ]
  | 1, _ => simp [rowT, List.range_succ]
  | 2, _ => simp [rowT, List.range_succ]
  | 3, _ => simp [rowT, List.range_succ]
  | 4, _ => simp [rowT, List.range_succ]
theorem rowT_len {r : Nat → Bool} : (rowT r).length = 5 := by simp [rowT]
theorem RowIs.set {us : List Value} {ss : List Str} {r : Nat → Bool} {j : Nat} {x : Str} {u : Tok} (h1 : StrsAre us ss) (h2 : ss.map tl = rowT r) (h : j < 5) (hx : tl x = [65 + j]) : RowIs (listOf (List.toArray (us.set j (.str x u))) 0) (fun i => r i || i == j) :=
  ⟨_, _, rfl, strs_set j x u h1, by rw [List.map_set, h2, hx, rowT_set h]⟩
theorem Rows.link {rc : List Obj} {G : Nat → Nat → Bool} {a b : Nat} {oa ob : Obj} (h : Rows rc G) (hab : a ≠ b) (ha : RowIs oa fun i => G a i || i == b) (hb : RowIs ob fun i => G b i || i == a) : Rows ((rc.set a oa).set b ob) (Mine.link G a b) := by
  refine ⟨by rw [List.length_set, List.length_set]; exact h.1, fun k o hk => ?_⟩
  rw [List.getElem?_set] at hk
  split at hk
  · rename_i e; subst e
    split at hk
    · have e : (fun i => G b i || i == a) = Mine.link G a b b := by
        funext i; simp [Mine.link, show (b == a) = false from by simpa using fun q : b = a => hab q.symm]
      rw [← Option.some.inj hk, ← e]; exact hb
    · cases hk
  · rename_i n1
    rw [List.getElem?_set] at hk
    split at hk
    · rename_i e; subst e
      split at hk
      · have e : (fun i => G a i || i == b) = Mine.link G a b a := by
          funext i; simp [Mine.link, show (a == b) = false from by simpa using hab]
        rw [← Option.some.inj hk, ← e]; exact ha
      · cases hk
    · rename_i n2
      have e : G k = Mine.link G a b k := by
        funext i; simp [Mine.link, show (k == b) = false from by simpa using fun q : k = b => n1 q.symm, show (k == a) = false from by simpa using fun q : k = a => n2 q.symm]
      rw [← e]; exact h.2 k o hk
theorem zip_has {ra : List Addr} {rc : List Obj} {a : Addr} (h : a ∈ ra) (hl : ra.length = rc.length) : ∃ o, (a, o) ∈ ra.zip rc := by
  obtain ⟨i, hi, e⟩ := List.mem_iff_getElem.mp h
  refine ⟨rc[i]'(by lia), List.mem_iff_getElem.mpr ⟨i, by rw [List.length_zip]; lia, ?_⟩⟩
  rw [List.getElem_zip, e]
section
variable {prog : Program} {w : World} {A : Around} {E : Value → Shared → Prop} {s : Shared} {h₀ : Heap} {L : Addr} {m : Str → Option Value}
theorem cap {h : Heap} {q : Addr × Obj} {NA : Addr} {nv : List Value} {y : Value} {k : Nat} {r : List (Addr × Obj)} (N : News h₀ L h (q :: (NA, listOf (List.toArray (nv ++ [y])) k) :: r)) : ∃ y', y' = y ∧ News h₀ L h (q :: (NA, listOf (List.toArray (nv ++ [y'])) k) :: r) := ⟨y, rfl, N⟩
theorem row_store {p1 p2 p3 : Addr × Obj} {ra : List Addr} {rc : List Obj} {X : List (Addr × Obj)} {r : Nat → Bool} {k j : Nat} {x : Str} {t u : Tok} {o0 : Obj} {Q : Unit → Shared → Prop} (F : Fr h₀ L s.heap m) (N : News h₀ L s.heap (p1 :: p2 :: p3 :: (ra.zip rc ++ X))) (hra : ra.Nodup) (hk : k < ra.length) (hg : rc[k]? = some o0) (hr : RowIs o0 r) (hj : j < 5) (hx : tl x = [65 + j])
    (h1 : p1.1 ∉ ra) (h2 : p2.1 ∉ ra) (h3 : p3.1 ∉ ra) (hX : ∀ p ∈ X, p.1 ∉ ra)
    (h : ∀ h' ob, RowIs ob (fun i => r i || i == j) → Fr h₀ L h' m → News h₀ L h' (p1 :: p2 :: p3 :: (ra.zip (rc.set k ob) ++ X)) → Q () { s with heap := h' }) :
    wpAny (model prog w) A (setItem (.ref (ra.getD k 0)) (.int (j : Int) t) (.str x u)) Q E s := by
  obtain ⟨D, hD⟩ : ∃ d, ra[k]? = some d := ⟨_, List.getElem?_eq_getElem hk⟩
  have hgD : ra.getD k 0 = D := by rw [List.getD_eq_getElem?_getD, hD]; rfl
  have hm : D ∈ ra := List.mem_of_getElem? hD
  obtain ⟨us, ss, rfl, hs, ht⟩ := hr
  have hl : us.length = 5 := by rw [hs.length, ← List.length_map (f := tl), ht, rowT_len]
  rw [hgD]
  refine g_setv (n := 0) F N (.tail (fun e => h1 (e ▸ hm)) (.tail (fun e => h2 (e ▸ hm)) (.tail (fun e => h3 (e ▸ hm)) (upd_app (upd_zip hra hD hg) fun p hp e => hX p hp (e ▸ hm))))) (by lia) (by lia) fun h' F' N' => ?_
  exact h h' _ (RowIs.set hs ht hj hx) F' N'
end
/-- the lamps that are linked, one after the other -/
def nearSh (sh : List (Nat × Nat)) (near : List (Nat × Nat)) : List (Nat × Nat) := near.foldl (fun a q => insP a (q.1, q.2 - 1)) sh
def nearG (G : Nat → Nat → Bool) (nm : Nat) (near : List (Nat × Nat)) : Nat → Nat → Bool := near.foldl (fun g q => Mine.link g nm q.1) G
theorem near_succ {sh near : List (Nat × Nat)} {j : Nat} {q : Nat × Nat} (h : near[j]? = some q) : nearSh sh (near.take (j + 1)) = insP (nearSh sh (near.take j)) (q.1, q.2 - 1) := by
  unfold nearSh
  rw [List.take_add_one, h, List.foldl_append]; rfl
theorem nearG_succ {G : Nat → Nat → Bool} {nm : Nat} {near : List (Nat × Nat)} {j : Nat} {q : Nat × Nat} (h : near[j]? = some q) : nearG G nm (near.take (j + 1)) = Mine.link (nearG G nm (near.take j)) nm q.1 := by
  unfold nearG
  rw [List.take_add_one, h, List.foldl_append]; rfl
theorem nearSh_sort {sh near : List (Nat × Nat)} (h : SortP sh) : SortP (nearSh sh near) := by
  unfold nearSh
  induction near generalizing sh with
  | nil => exact h
  | cons q r ih => exact ih (insP_sort h)
theorem nearSh_len {sh near : List (Nat × Nat)} : (nearSh sh near).length = sh.length + near.length := by
  unfold nearSh
  induction near generalizing sh with
  | nil => rfl
  | cons q r ih => rw [List.foldl_cons, ih, insP_len, List.length_cons]; lia
end
section
open PySem PySem.W PyProof.Rows
def noStmt : Stmt := .Pass ⟨0, 0, 0, 0⟩
def bodyOf : Stmt → List Stmt
  | .FunctionDef _ _ b _ _ _ _ _ _ _ => b
  | .For _ _ b _ _ => b
  | _ => []
def scopeOf : Stmt → Scope
  | .FunctionDef _ _ _ _ _ _ sc _ _ _ => sc
  | _ => { kind := .function, names := [], isGenerator := false, isCoroutine := false }
def defAt (k : Nat) : Stmt := PySem.Challenge.pw_sc0061_01.main.body.getD k noStmt
def lawDef : Stmt := PySem.Challenge.pw_sc0061_01.main.body.getLastD noStmt
def lawBody : List Stmt := bodyOf lawDef
def lawScope : Scope := scopeOf lawDef
def turnBody : List Stmt := bodyOf (lawBody.getD 12 noStmt)
def levDef : Stmt := defAt 18
def levBody : List Stmt := bodyOf levDef
def levScope : Scope := scopeOf levDef
end
section
open PySem PySem.W PyProof.Rows PySem.Flt

/-! the distance's table, row by row, as the text reckons it -/
abbrev Cell := List Int × Int × Int × Int
def inStep (c : Nat → Int) (σ : Cell) (j : Nat) : Cell :=
  let sub := σ.2.1 + c j
  let d := σ.1.getD j 0
  let q := minI σ.2.2.1 d + 2
  let r := minI q sub
  (σ.1.set j r, d, r, if r < σ.2.2.2 then r else σ.2.2.2)
def inRun (c : Nat → Int) (σ : Cell) : Nat → Cell
  | 0 => σ
  | j + 1 => inStep c (inRun c σ j) j
def rowRun (c : Nat → Int) (M : Nat) (row : List Int) (i : Nat) : Cell := inRun c (row, (i : Int) * 2, (i : Int) * 2, 9223372036854775807) M
def outRun (cc : Nat → Nat → Int) (M : Nat) : Nat → List Int × Int
  | 0 => (stepInts 2 2 M, 0)
  | i + 1 => let σ := rowRun (cc i) M (outRun cc M i).1 i; (σ.1, σ.2.2.1)
def ccS (SA SB : Str) (i j : Nat) : Int := sc (Txt.item SB (i : Int)) (Txt.item SA (j : Int))
theorem inRun_len (c : Nat → Int) (σ : Cell) (j : Nat) : (inRun c σ j).1.length = σ.1.length := by
  induction j with
  | zero => rfl
  | succ j ih => show (List.set _ _ _).length = _; rw [List.length_set]; exact ih
theorem outRun_len (cc : Nat → Nat → Int) (M i : Nat) : (outRun cc M i).1.length = M := by
  induction i with
  | zero => simp [outRun, stepInts]
  | succ i ih => show (inRun _ _ _).1.length = _; rw [inRun_len]; exact ih
theorem size_dp {A : Str} {M : Nat} (h : A.length = M) : Builtin.Range.rangeSize 2 (2 * ((A.length : Int) + 1)) 2 = (M : Int) := by
  subst h
  unfold Builtin.Range.rangeSize
  simp only [show (2 : Int) > 0 by decide, if_true]
  split <;> lia
theorem small_dp {A : Str} {M : Nat} (h : A.length = M) (h5 : M ≤ 5) : Builtin.Range.small 2 (2 * ((A.length : Int) + 1)) 2 = true := by
  have : ∀ k : Nat, k ≤ 5 → Builtin.Range.small 2 (2 * ((k : Int) + 1)) 2 = true := by decide +kernel
  rw [h]; exact this M h5
local macro_rules | `(tactic| walk_at "exec For Name Call cons nil") => `(tactic| (k_here; (with_reducible rename Fr _ _ _ _ => lF'); k_dflt (refine' For_invVF lF' (by rfl) (by rfl) ?_ (by (intro _; rfl)) (by assumption))))
local macro_rules | `(tactic| walk_at "call type:range") => `(tactic| (k_here; k_dflt (first
  | (refine' g_range1 (by k_asm) (by k_asm) ?_)
  | (refine' g_range2 (by k_asm) (by k_asm) ?_)
  | (refine' g_range3 (by k_asm) (by k_asm) (by decide) (by decide) ?_)); walk_at "in"))
local macro_rules | `(tactic| walk_at "pyIter ref") => `(tactic| refine Halt.mk ?_)
local macro_rules | `(tactic| walk_at "call builtin:min") => `(tactic| (k_here; k_dflt (refine' g_min (by rfl) (by k_asm) (by k_asm) ?_); walk_at "in"))
local macro_rules | `(tactic| walk_at "binaryOp Mult int int") => `(tactic| ((with_reducible first | refine g_mulr ?k1 ?_ | refine g_mull ?k1 ?_); (case k1 => decide); walk_at "ie"))
local macro_rules | `(tactic| walk_at "subscriptTail Name Name str int") => `(tactic| ((try dsimp only); k_here; k_dflt (refine' g_stritem (by lia) (by lia) (by lia) ?_ (by with_unfolding_all rfl) (by (intro _; with_unfolding_all rfl))); walk_at "ie"))
local macro_rules | `(tactic| walk_at "call builtin:len") => `(tactic| (k_here; (with_reducible show wpAny _ _ (call _ [Value.str _ _]) _ _ _); k_dflt (refine' g_strlen (by lia) ?_); walk_at "ie"))

local macro_rules | `(tactic| walk_at "call type:list") => `(tactic| (k_here; (with_reducible rename IsRange _ _ _ _ _ _ _ _ => rg'); k_dflt (refine' g_listrange (by rfl) (by k_asm) (by k_asm) rg' (by exact small_dp (by assumption) (by assumption)) (by exact size_dp (by assumption)) (by lia) ?_); walk_at "in"))
local macro_rules | `(tactic| walk_at "call ref") => `(tactic| (k_here; (with_reducible show wpAny _ _ (call (Value.ref 94) _) _ _ _); (with_reducible rename Fr _ _ _ _ => kF); k_dflt (refine' c_sub (by assumption) kF (by assumption) (by k_asm) (by assumption) (by rfl) (by ktr_room) (by rfl) (by rfl) ?_); walk_at "in"))
local macro_rules | `(tactic| walk_at "subscriptTail Name Name ref int") => `(tactic| ((try dsimp only); k_here; k_dflt (refine' ksa_sub (by k_asm) (by k_mem) (by with_reducible assumption) (by lia) (by lia) (by lia) ?_ (by with_unfolding_all rfl)); walk_at "ie"))
local macro_rules | `(tactic| walk_at "setItem ref int") => `(tactic| ((try dsimp only); k_here; k_dflt (refine' ksa_set (by k_asm) (by k_asm) (by exact Upd.head (by assumption)) (by with_reducible assumption) (by lia) (by lia) (by lia) ?_); intro h' F' N' hi' hl' hs'; (clear hl' hs'); (try k_sweep); (try dsimp only)))
section
variable {w : World} {mean : ExcName → Option Value} {mg mb : Str → Option Value} {dp un : Nat} {gd : Option (List Code)} {cn : Str} {cs : Scope} {a : Addr} {ccd : Value} {cl : List (Str × Addr)} {outer : List Env} {A₀ : Around} {base h₀ : Heap} {L : Addr} {m : Str → Option Value} {news : List (Addr × Obj)} {s : Shared} {Q : Flow → Shared → Prop} {E : Value → Shared → Prop}
set_option maxRecDepth 100000
set_option maxHeartbeats 8000000

theorem seg_dp {SA SB : Str} {ta tb tm : Tok} {M : Nat} (B : Below A₀ base outer h₀) (F : Fr h₀ L s.heap m) (X : (Mine.hd.heap_39 w.params).In h₀) (N : News h₀ L s.heap news) (T : Top Mine.hd.view_39 looseL mean mg mb h₀) (hE : PassesOwn (model Challenge.rw_sc0061_01.row.prog w) (ktrTop dp un gd (Str.ofString "_levenshtein_distance") levScope L a ccd [] outer) (envX (Str.ofString "_levenshtein_distance") levScope L a ccd []) E) (hd : dp + 12 < recursionLimit) (hA : SA.length = M) (hB : SB.length = M) (h1 : 1 ≤ M) (h5 : M ≤ 5)
    (va : m (Str.ofString "a") = some (.str SA ta)) (vb : m (Str.ofString "b") = some (.str SB tb)) (vm : m (Str.ofString "max_cost") = some (.int 5 tm))
    (hmn : ∀ i, i < M → (rowRun (ccS SA SB i) M (outRun (ccS SA SB) M i).1 i).2.2.2 ≤ 5)
    (hQ : ∀ h' tk t u, Fr h₀ L h' u → News h₀ L h' news → Q (.ret (.int (outRun (ccS SA SB) M M).2 t)) { s with heap := h', toks := tk }) :
    wpAny (model Challenge.rw_sc0061_01.row.prog w) (ktrTop dp un gd (Str.ofString "_levenshtein_distance") levScope L a ccd [] outer) (execs (levBody.drop 13) (envX (Str.ofString "_levenshtein_distance") levScope L a ccd [])) Q E s := by
  have F1 := kst_self F (ps := [(Str.ofString "a", .str SA ta), (Str.ofString "b", .str SB tb), (Str.ofString "max_cost", .int 5 tm)]) (all_cons va (all_cons vb (all_cons vm all_nil)))
  clear F
  revert X
  k_fill
  intro X
  conv in (execs _ _) => (arg 1; whnf)
  conv in (envX _ _ _ _ _ _) => (arg 2; whnf)
  walk_at "go"
  refine Halt.out ?_
  rename_i D us k _ _ l1 I1 _ _ t0 _ _ _ _ _ r _ _ _ _ _ R2 F2 N2
  refine iter_up_st (n := M) (σ := List Value × Int × Tok) (fun c => [(Str.ofString "a", .str SA ta), (Str.ofString "b", .str SB tb), (Str.ofString "max_cost", .int 5 tm), (Str.ofString "row", .ref D), (Str.ofString "result", .int c.2.1 c.2.2)])
    (fun c => (D, listOf c.1.toArray k) :: news) (fun i c => IntsAre c.1 (outRun (ccS SA SB) M i).1 ∧ c.2.1 = (outRun (ccS SA SB) M i).2) (us, 0, t0) rfl R2 (by rw [hB]) (by lia) F2 N2 (fun _ h => h) (all_cons rfl (all_cons rfl (all_cons rfl (all_cons rfl (all_cons rfl all_nil))))) ⟨I1, rfl⟩ ?turn ?done
  case done =>
    rintro ⟨vs, res, tr⟩ u h tk ⟨p1, rfl⟩ F3 N3
    dsimp only at F3 N3
    (try dsimp only); (try k_fold)
    walk_at "go"
    exact hQ _ _ tr _ F3 (Mine.News.sub N3 fun _ hp => List.Mem.tail _ hp)
  case turn =>
    clear F2 N2 R2 I1
    rintro I i t ⟨vs, res, tr⟩ u h tk own Qn hlt hi ⟨p1, rfl⟩ hoff ⟨oI, hI⟩ hown F3 N3 hQn
    dsimp only at p1 hoff F3 N3 hQn
    simp only [List.cons_append] at N3
    have hD : ∀ p ∈ news ++ own, p.1 ≠ D := fun p hp => by
      rcases List.mem_append.mp hp with q | q
      · exact Nat.ne_of_lt (l1 p q)
      · rw [hown p q]; exact fun e => hoff _ (.head _) e.symm
    have hl := outRun_len (ccS SA SB) M i
    (try dsimp only); (try k_fold)
    walk_at "go"
    refine Halt.out ?_
    rename_i r2 _ _ _ _ _ R4 F4 N4
    (try clear F3); (try clear N3)
    obtain ⟨tb2, eb2⟩ := fr_str F4 (Str.ofString "bchar") (Txt.item SB (i : Int)) rfl
    obtain ⟨td2, ed2⟩ := fr_int F4 (Str.ofString "distance") ((i : Int) * 2) rfl
    obtain ⟨tr2, er2⟩ := fr_int F4 (Str.ofString "result") ((i : Int) * 2) rfl
    obtain ⟨tn2, en2⟩ := fr_int F4 (Str.ofString "minimum") 9223372036854775807 rfl
    refine iter_up_st (n := M) (σ := List Value × (Int × Tok) × (Int × Tok) × (Int × Tok)) (fun c => [(Str.ofString "a", .str SA ta), (Str.ofString "b", .str SB tb), (Str.ofString "max_cost", .int 5 tm), (Str.ofString "row", .ref D),
      (Str.ofString "bchar", .str (Txt.item SB (i : Int)) tb2), (Str.ofString "distance", .int c.2.1.1 c.2.1.2), (Str.ofString "result", .int c.2.2.1.1 c.2.2.1.2), (Str.ofString "minimum", .int c.2.2.2.1 c.2.2.2.2)])
      (fun c => (D, listOf c.1.toArray k) :: (news ++ own)) (fun j c => ∃ σ, σ = inRun (ccS SA SB i) ((outRun (ccS SA SB) M i).1, (i : Int) * 2, (i : Int) * 2, 9223372036854775807) j ∧ IntsAre c.1 σ.1 ∧ c.2.1.1 = σ.2.1 ∧ c.2.2.1.1 = σ.2.2.1 ∧ c.2.2.2.1 = σ.2.2.2)
      (vs, (_, td2), (_, tr2), (_, tn2)) rfl R4 (by rw [hA]) (by lia) F4 N4 (fun _ h => h) (all_cons rfl (all_cons rfl (all_cons rfl (all_cons rfl (all_cons eb2 (all_cons ed2 (all_cons er2 (all_cons en2 all_nil)))))))) ⟨_, rfl, p1, rfl, rfl, rfl⟩ ?turn ?done
    case done =>
      clear F4 N4 R4
      rintro ⟨vs2, ⟨di, td⟩, ⟨re, tr⟩, ⟨mn, tn⟩⟩ u2 h2 tk2 ⟨σ, e0, q1, q2, q3, q4⟩ F5 N5
      dsimp only at q1 q2 q3 q4 F5 N5
      have hm5 : mn ≤ 5 := by have := hmn i hi; rw [q4, e0]; exact this
      (try dsimp only); (try k_fold)
      walk_at "go"
      refine Halt.out ?_
      show Qn _
      have eo : outRun (ccS SA SB) M (i + 1) = (σ.1, σ.2.2.1) := by rw [e0]; rfl
      refine hQn (vs2, re, tr) _ _ _ _ ⟨by rw [eo]; exact q1, by rw [eo]; exact q3⟩ (fun p hp => ?_) F5 (all_cons rfl (all_cons rfl (all_cons rfl (all_cons rfl (all_cons rfl all_nil))))) N5 (fun _ h => h)
      rcases List.mem_cons.mp hp with rfl | hp
      · exact hoff (D, listOf vs.toArray k) (.head _)
      · exact hoff p (.tail _ hp)
    case turn =>
      clear F4 N4 R4
      rintro I2 j t2 ⟨vs2, ⟨di, td⟩, ⟨re, tr⟩, ⟨mn, tn⟩⟩ u2 h2 tk2 own2 Qn2 hlt2 hj ⟨σ, e0, q1, q2, q3, q4⟩ hoff2 ⟨oI2, hI2⟩ hown2 F5 N5 hQn2
      dsimp only at q1 q2 q3 q4 hoff2 F5 N5 hQn2
      simp only [List.cons_append] at N5
      have hD2 : ∀ p ∈ news ++ own ++ own2, p.1 ≠ D := fun p hp => by
        rcases List.mem_append.mp hp with q | q
        · exact hD p q
        · rw [hown2 p q]; exact fun e => hoff2 _ (.head _) e.symm
      have hl2 : σ.1.length = M := by rw [e0, inRun_len]; exact hl
      (try dsimp only); (try k_fold)
      walk_at "go"
      all_goals (
        refine Halt.out ?_
        show Qn2 _
        rename Fr _ _ _ _ => F6
        rename News _ _ _ _ => N6
        rename IntsAre (List.set _ _ _) _ => I6
        subst q2 q3 q4
        obtain ⟨td6, ed6⟩ := fr_int F6 (Str.ofString "distance") (σ.1.getD j 0) rfl
        obtain ⟨tr6, er6⟩ := fr_int F6 (Str.ofString "result") (minI (minI σ.2.2.1 (σ.1.getD j 0) + 2) (σ.2.1 + ccS SA SB i j)) rfl)
      · rename _ < _ => hc
        obtain ⟨tn6, en6⟩ := fr_int F6 (Str.ofString "minimum") (minI (minI σ.2.2.1 (σ.1.getD j 0) + 2) (σ.2.1 + ccS SA SB i j)) rfl
        refine hQn2 (_, (_, td6), (_, tr6), (_, tn6)) _ _ _ _ ⟨inStep (ccS SA SB i) σ j, by show _ = inStep _ _ j; rw [e0], I6, rfl, rfl, (if_pos hc).symm⟩ (fun p hp => ?_) F6 (all_cons rfl (all_cons rfl (all_cons rfl (all_cons rfl (all_cons rfl (all_cons ed6 (all_cons er6 (all_cons en6 all_nil)))))))) N6 (fun _ h => h)
        rcases List.mem_cons.mp hp with rfl | hp
        · exact hoff2 (D, listOf vs2.toArray k) (.head _)
        · exact hoff2 p (.tail _ hp)
      · rename ¬ (_ < _) => hc
        refine hQn2 (_, (_, td6), (_, tr6), (_, tn)) _ _ _ _ ⟨inStep (ccS SA SB i) σ j, by show _ = inStep _ _ j; rw [e0], I6, rfl, rfl, (if_neg hc).symm⟩ (fun p hp => ?_) F6 (all_cons rfl (all_cons rfl (all_cons rfl (all_cons rfl (all_cons rfl (all_cons ed6 (all_cons er6 (all_cons rfl all_nil)))))))) N6 (fun _ h => h)
        rcases List.mem_cons.mp hp with rfl | hp
        · exact hoff2 (D, listOf vs2.toArray k) (.head _)
        · exact hoff2 p (.tail _ hp)
end
end
section
open PySem PySem.W PyProof.Rows PySem.Flt

def preL : List Nat → List Nat → Nat
  | a :: r, b :: q => if a = b then preL r q + 1 else 0
  | _, _ => 0
theorem preL_le : ∀ {X Y : List Nat}, preL X Y ≤ X.length
  | [], _ => Nat.zero_le _
  | _ :: _, [] => Nat.zero_le _
  | a :: r, b :: q => by
    unfold preL; split
    · exact Nat.succ_le_succ preL_le
    · exact Nat.zero_le _
theorem preL_step : ∀ {X Y : List Nat} {k : Nat}, X.length = Y.length → k ≤ preL X Y → k < X.length → X.getD k 0 = Y.getD k 0 → k + 1 ≤ preL X Y
  | [], _, _, _, _, h, _ => by cases h
  | _ :: _, [], _, h, _, _, _ => by cases h
  | a :: r, b :: q, 0, _, _, _, h => by
    have e : a = b := h
    unfold preL; rw [if_pos e]; lia
  | a :: r, b :: q, k + 1, hl, hk, hx, h => by
    unfold preL at hk ⊢
    by_cases e : a = b
    · rw [if_pos e] at hk ⊢
      exact Nat.succ_le_succ (preL_step (Nat.succ.inj hl) (Nat.le_of_succ_le_succ hk) (Nat.lt_of_succ_lt_succ hx) h)
    · rw [if_neg e] at hk; lia
theorem preL_stop : ∀ {X Y : List Nat} {k : Nat}, X.length = Y.length → k ≤ preL X Y → (k < X.length → X.getD k 0 ≠ Y.getD k 0) → preL X Y = k
  | [], Y, k, _, hk, _ => by have : preL [] Y = 0 := rfl; lia
  | _ :: _, [], _, h, _, _ => by cases h
  | a :: r, b :: q, 0, _, _, h => by
    have h' : ¬ a = b := h (Nat.succ_pos _)
    unfold preL; rw [if_neg h']
  | a :: r, b :: q, k + 1, hl, hk, h => by
    unfold preL at hk ⊢
    by_cases e : a = b
    · rw [if_pos e] at hk ⊢
      exact congrArg Nat.succ (preL_stop (Nat.succ.inj hl) (Nat.le_of_succ_le_succ hk) fun hx => h (Nat.succ_lt_succ hx))
    · rw [if_neg e] at hk; lia
theorem item_nat {x : Str} {k : Nat} (h : k < x.length) : Txt.item x (k : Int) = ⟨#[(tl x).getD k 0]⟩ := by
  unfold Txt.item Txt.charAt
  have e : seqIndex? (k : Int) x.length = some k := by
    unfold seqIndex?; simp; lia
  rw [e]
  show (⟨#[(x.cps[k]?).getD 0]⟩ : Str) = _
  rw [← getD_tl]; simp
theorem item_neg {x : Str} {k : Nat} (h : k < x.length) : Txt.item x (-(k : Int) - 1) = ⟨#[(tl x).getD (x.length - 1 - k) 0]⟩ := by
  unfold Txt.item Txt.charAt
  have e : seqIndex? (-(k : Int) - 1) x.length = some (x.length - 1 - k) := by
    unfold seqIndex?; simp; lia
  rw [e]
  show (⟨#[(x.cps[x.length - 1 - k]?).getD 0]⟩ : Str) = _
  rw [← getD_tl]; simp
theorem beq_sign {a b : Nat} : ((⟨#[a]⟩ : Str) == ⟨#[b]⟩) = true ↔ a = b := by
  rw [beq_iff_eq]
  constructor
  · intro h; have := congrArg tl h; simpa [tl] using this
  · intro h; rw [h]
local macro_rules | `(tactic| walk_at "subscriptTail Name Name str int") => `(tactic| ((try dsimp only); k_here; k_dflt (refine' g_stritem (by lia) (by lia) (by lia) ?_ (by with_unfolding_all rfl) (by (intro _; with_unfolding_all rfl))); walk_at "ie"))
local macro_rules | `(tactic| walk_at "call builtin:len") => `(tactic| (k_here; (with_reducible show wpAny _ _ (call _ [Value.str _ _]) _ _ _); k_dflt (refine' g_strlen (by lia) ?_); walk_at "ie"))

local macro_rules | `(tactic| walk_at "exec While BoolOp cons nil") => `(tactic| refine Halt.mk ?_)
local macro_rules | `(tactic| walk_at "Cut") => `(tactic| refine Halt.mk ?_)
local macro_rules | `(tactic| walk_at "truthy str") => `(tactic| (k_dflt (refine' g_strtrue2 (by lia) ?_ ?_); all_goals (walk_at "ie")))
local macro_rules | `(tactic| walk_at "subscriptTail Name Slice str ref") => `(tactic| ((try dsimp only); k_here; k_dflt (first
  | (refine' g_from (by k_asm) (by k_asm) (by lia) (by lia) ?_ (by with_unfolding_all rfl) (by (intro _; with_unfolding_all rfl)))
  | (refine' g_all (by k_asm) (by k_asm) (by lia) ?_ (by with_unfolding_all rfl) (by (intro _; with_unfolding_all rfl)))
  | (refine' g_neg (by k_asm) (by k_asm) rfl (by lia) (by lia) (by lia) ?_ (by with_unfolding_all rfl) (by (intro _; with_unfolding_all rfl)))); walk_at "in"))
local macro_rules | `(tactic| walk_at "execs cons") => `(tactic| ((with_reducible show wpAny _ _ (execs (Stmt.Assign [Expr.Name (Str.ofString "post") _] _ _ :: _) _) _ _ _); refine Halt.mk ?_))
section
variable {w : World} {mean : ExcName → Option Value} {mg mb : Str → Option Value} {dp un : Nat} {gd : Option (List Code)} {cn : Str} {cs : Scope} {a : Addr} {ccd : Value} {cl : List (Str × Addr)} {outer : List Env} {A₀ : Around} {base h₀ : Heap} {L : Addr} {m : Str → Option Value} {news : List (Addr × Obj)} {s : Shared} {Q : Flow → Shared → Prop} {E : Value → Shared → Prop}
set_option maxRecDepth 100000
set_option maxHeartbeats 8000000

theorem seg_l1 {x y : Str} {u v t : Tok} {n : Nat} (B : Below A₀ base outer h₀) (F : Fr h₀ L s.heap m) (X : (Mine.hd.heap_39 w.params).In h₀) (N : News h₀ L s.heap news) (T : Top Mine.hd.view_39 looseL mean mg mb h₀) (hE : PassesOwn (model Challenge.rw_sc0061_01.row.prog w) (ktrTop dp un gd (Str.ofString "_levenshtein_distance") levScope L a ccd [] outer) (envX (Str.ofString "_levenshtein_distance") levScope L a ccd []) E) (hd : dp + 12 < recursionLimit) (hx : x.length = n) (hy : y.length = n) (hn : n ≤ 5)
    (va : m (Str.ofString "a") = some (.str x u)) (vb : m (Str.ofString "b") = some (.str y v)) (vm : m (Str.ofString "max_cost") = some (.int 5 t))
    (hQ : ∀ h' tk m' z1 z2 t1 t2, Fr h₀ L h' m' → News h₀ L h' news → m' (Str.ofString "a") = some (.str z1 t1) → m' (Str.ofString "b") = some (.str z2 t2) → m' (Str.ofString "max_cost") = some (.int 5 t) →
      tl z1 = (tl x).drop (preL (tl x) (tl y)) → tl z2 = (tl y).drop (preL (tl x) (tl y)) → wpAny (model Challenge.rw_sc0061_01.row.prog w) (ktrTop dp un gd (Str.ofString "_levenshtein_distance") levScope L a ccd [] outer) (execs (levBody.drop 5) (envX (Str.ofString "_levenshtein_distance") levScope L a ccd [])) Q E { s with heap := h', toks := tk }) :
    wpAny (model Challenge.rw_sc0061_01.row.prog w) (ktrTop dp un gd (Str.ofString "_levenshtein_distance") levScope L a ccd [] outer) (execs (levBody.drop 1) (envX (Str.ofString "_levenshtein_distance") levScope L a ccd [])) Q E s := by
  have F1 := kst_self F (ps := [(Str.ofString "a", .str x u), (Str.ofString "b", .str y v), (Str.ofString "max_cost", .int 5 t)]) (all_cons va (all_cons vb (all_cons vm all_nil)))
  clear F
  revert X
  k_fill
  intro X
  conv in (execs _ _) => (arg 1; whnf)
  conv in (envX _ _ _ _ _ _) => (arg 2; whnf)
  walk_at "go"
  refine Halt.out ?_
  rename Fr _ _ _ _ => F1
  rename News _ _ _ _ => N1
  obtain ⟨t1, e1⟩ := fr_int F1 (Str.ofString "pre") ((0 : Nat) : Int) rfl
  refine wp_cut (Post := fun s' => ∃ h' tk t9 u9, s' = { s with heap := h', toks := tk } ∧ Fr h₀ L h' (kstB u9 [(Str.ofString "a", .str x u), (Str.ofString "b", .str y v), (Str.ofString "max_cost", .int 5 t), (Str.ofString "pre", .int (preL (tl x) (tl y) : Nat) t9)]) ∧ News h₀ L h' news) ?cut1 ?rest1
  case cut1 =>
    refine while_st (σ := Nat × Tok) (fun c => [(Str.ofString "a", .str x u), (Str.ofString "b", .str y v), (Str.ofString "max_cost", .int 5 t), (Str.ofString "pre", .int c.1 c.2)]) (fun _ => news)
      (fun c => c.1 ≤ preL (tl x) (tl y)) (fun c => n - c.1) (0, t1) F1 N1 (fun _ h => h) (all_cons rfl (all_cons rfl (all_cons rfl (all_cons e1 all_nil)))) (Nat.zero_le _) ?turn (by assumption)
    case turn =>
      clear F1 N1 e1
      rintro ⟨k, t2⟩ u2 h tk Qn p1 F2 N2 hQn
      dsimp only at p1 F2 N2 hQn
      have hk5 : k ≤ n := by have := preL_le (X := tl x) (Y := tl y); rw [tl_len, hx] at this; lia
      (try dsimp only); (try k_fold)
      walk_at "go"
      all_goals (refine Halt.out ?_; rename Fr _ _ _ _ => F3; rename News _ _ _ _ => N3)
      · show Qn _
        rename (_ == _) = true => hq
        have hkn : k < n := by lia
        rw [item_nat (by rw [hx]; exact hkn), item_nat (by rw [hy]; exact hkn), beq_sign] at hq
        have hs := preL_step (k := k) (by rw [tl_len, tl_len, hx, hy]) p1 (by rw [tl_len, hx]; exact hkn) hq
        obtain ⟨t6, e6⟩ := fr_int F3 (Str.ofString "pre") ((k + 1 : Nat) : Int) rfl
        exact hQn (k + 1, t6) _ _ _ _ hs (by show n - (k + 1) < n - k; lia) F3 (all_cons rfl (all_cons rfl (all_cons rfl (all_cons e6 all_nil)))) N3 (fun _ h => h)
      · rename (_ == _) = false => hq
        have hkn : k < n := by lia
        have e : preL (tl x) (tl y) = k := preL_stop (by rw [tl_len, tl_len, hx, hy]) p1 fun _ q => by
          rw [item_nat (by rw [hx]; exact hkn), item_nat (by rw [hy]; exact hkn)] at hq
          rw [beq_sign.mpr q] at hq; cases hq
        refine ⟨rfl, ?_⟩; rw [e]; exact ⟨_, _, _, _, rfl, F3, N3⟩
      · have e : preL (tl x) (tl y) = k := preL_stop (by rw [tl_len, tl_len, hx, hy]) p1 fun q _ => by rw [tl_len] at q; lia
        refine ⟨rfl, ?_⟩; rw [e]; exact ⟨_, _, _, _, rfl, F3, N3⟩
      · have e : preL (tl x) (tl y) = k := preL_stop (by rw [tl_len, tl_len, hx, hy]) p1 fun q _ => by rw [tl_len] at q; lia
        refine ⟨rfl, ?_⟩; rw [e]; exact ⟨_, _, _, _, rfl, F3, N3⟩
  case rest1 =>
    clear F1 N1 e1
    rintro s' ⟨h, tk, t9, u9, rfl, F2, N2⟩
    (try dsimp only); (try k_fold)
    have hk5 : preL (tl x) (tl y) ≤ n := by have := preL_le (X := tl x) (Y := tl y); rw [tl_len, hx] at this; exact this
    walk_at "go"
    refine Halt.out ?_
    rename Fr _ _ _ _ => F3
    rename News _ _ _ _ => N3
    exact hQ _ _ _ _ _ _ _ F3 N3 rfl rfl rfl (by assumption) (by assumption)
end
end
section
open PySem PySem.W PyProof.Rows PySem.Flt
local macro_rules | `(tactic| walk_at "subscriptTail Name Name str int") => `(tactic| ((try dsimp only); k_here; k_dflt (refine' g_stritem (by lia) (by lia) (by lia) ?_ (by with_unfolding_all rfl) (by (intro _; with_unfolding_all rfl))); walk_at "ie"))
local macro_rules | `(tactic| walk_at "call builtin:len") => `(tactic| (k_here; (with_reducible show wpAny _ _ (call _ [Value.str _ _]) _ _ _); k_dflt (refine' g_strlen (by lia) ?_); walk_at "ie"))

local macro_rules | `(tactic| walk_at "exec While BoolOp cons nil") => `(tactic| refine Halt.mk ?_)
local macro_rules | `(tactic| walk_at "Cut") => `(tactic| refine Halt.mk ?_)
local macro_rules | `(tactic| walk_at "truthy str") => `(tactic| (k_dflt (refine' g_strtrue2 (by lia) ?_ ?_); all_goals (walk_at "ie")))
local macro_rules | `(tactic| walk_at "subscriptTail Name Slice str ref") => `(tactic| ((try dsimp only); k_here; k_dflt (first
  | (refine' g_from (by k_asm) (by k_asm) (by lia) (by lia) ?_ (by with_unfolding_all rfl) (by (intro _; with_unfolding_all rfl)))
  | (refine' g_all (by k_asm) (by k_asm) (by lia) ?_ (by with_unfolding_all rfl) (by (intro _; with_unfolding_all rfl)))
  | (refine' g_neg (by k_asm) (by k_asm) rfl (by lia) (by lia) (by lia) ?_ (by with_unfolding_all rfl) (by (intro _; with_unfolding_all rfl)))); walk_at "in"))
local macro_rules | `(tactic| walk_at "truthy int") => `(tactic| ((try dsimp only); first | ((with_reducible refine g_int0 ?h ?_); (case h => lia)) | ((with_reducible refine g_int1 ?h ?_); (case h => lia))))
local macro_rules | `(tactic| walk_at "truthy str") => `(tactic| ((with_reducible refine g_strpos ?h ?hz ?_); (case h => lia); (case hz => lia); walk_at "ie"))
local macro_rules | `(tactic| walk_at "subscriptTail Name Slice str ref") => `(tactic| ((try dsimp only); k_here; (with_reducible rename Fr _ _ _ _ => kF); (with_reducible rename News _ _ _ _ => kN); (with_reducible (first | (refine' g_all kF kN ?z ?_ ?hs ?ht) | (refine' g_neg kF kN ?hj ?k0 ?k ?z ?_ ?hs ?ht))); (try (case hj => k_dflt (exact rfl))); (try (case k0 => lia)); (try (case k => lia)); (case z => lia); (case hs => with_unfolding_all rfl); (case ht => (intro _; with_unfolding_all rfl)); walk_at "in"))
local macro_rules | `(tactic| walk_at "execs cons") => `(tactic| ((with_reducible show wpAny _ _ (execs (Stmt.If (Expr.BoolOp _ _ _) _ _ _ :: _) _) _ _ _); refine Halt.mk ?_))
section
variable {w : World} {mean : ExcName → Option Value} {mg mb : Str → Option Value} {dp un : Nat} {gd : Option (List Code)} {cn : Str} {cs : Scope} {a : Addr} {ccd : Value} {cl : List (Str × Addr)} {outer : List Env} {A₀ : Around} {base h₀ : Heap} {L : Addr} {m : Str → Option Value} {news : List (Addr × Obj)} {s : Shared} {Q : Flow → Shared → Prop} {E : Value → Shared → Prop}
set_option maxRecDepth 100000
set_option maxHeartbeats 8000000

theorem seg_l2 {x y : Str} {u v t : Tok} {n : Nat} (B : Below A₀ base outer h₀) (F : Fr h₀ L s.heap m) (X : (Mine.hd.heap_39 w.params).In h₀) (N : News h₀ L s.heap news) (T : Top Mine.hd.view_39 looseL mean mg mb h₀) (hE : PassesOwn (model Challenge.rw_sc0061_01.row.prog w) (ktrTop dp un gd (Str.ofString "_levenshtein_distance") levScope L a ccd [] outer) (envX (Str.ofString "_levenshtein_distance") levScope L a ccd []) E) (hd : dp + 12 < recursionLimit) (hx : x.length = n) (hy : y.length = n) (h1 : 1 ≤ n) (hn : n ≤ 5) (hK : preL (tl x).reverse (tl y).reverse < n)
    (va : m (Str.ofString "a") = some (.str x u)) (vb : m (Str.ofString "b") = some (.str y v)) (vm : m (Str.ofString "max_cost") = some (.int 5 t))
    (hQ : ∀ h' tk m' z1 z2 t1 t2, Fr h₀ L h' m' → News h₀ L h' news → m' (Str.ofString "a") = some (.str z1 t1) → m' (Str.ofString "b") = some (.str z2 t2) → m' (Str.ofString "max_cost") = some (.int 5 t) →
      tl z1 = (tl x).take (n - preL (tl x).reverse (tl y).reverse) → tl z2 = (tl y).take (n - preL (tl x).reverse (tl y).reverse) → wpAny (model Challenge.rw_sc0061_01.row.prog w) (ktrTop dp un gd (Str.ofString "_levenshtein_distance") levScope L a ccd [] outer) (execs (levBody.drop 9) (envX (Str.ofString "_levenshtein_distance") levScope L a ccd [])) Q E { s with heap := h', toks := tk }) :
    wpAny (model Challenge.rw_sc0061_01.row.prog w) (ktrTop dp un gd (Str.ofString "_levenshtein_distance") levScope L a ccd [] outer) (execs (levBody.drop 5) (envX (Str.ofString "_levenshtein_distance") levScope L a ccd [])) Q E s := by
  have F1 := kst_self F (ps := [(Str.ofString "a", .str x u), (Str.ofString "b", .str y v), (Str.ofString "max_cost", .int 5 t)]) (all_cons va (all_cons vb (all_cons vm all_nil)))
  clear F
  revert X
  k_fill
  intro X
  conv in (execs _ _) => (arg 1; whnf)
  conv in (envX _ _ _ _ _ _) => (arg 2; whnf)
  walk_at "go"
  refine Halt.out ?_
  rename Fr _ _ _ _ => F1
  rename News _ _ _ _ => N1
  obtain ⟨t1, e1⟩ := fr_int F1 (Str.ofString "post") (-((0 : Nat) : Int)) rfl
  refine wp_cut (Post := fun s' => ∃ h' tk u9, ∃ c : Nat × Tok, s' = { s with heap := h', toks := tk } ∧ Fr h₀ L h' (kstB u9 [(Str.ofString "a", .str x u), (Str.ofString "b", .str y v), (Str.ofString "max_cost", .int 5 t), (Str.ofString "post", .int (-(c.1 : Int)) c.2)]) ∧ News h₀ L h' news ∧ c.1 = preL (tl x).reverse (tl y).reverse) ?cut1 ?rest1
  case cut1 =>
    refine while_st (σ := Nat × Tok) (fun c => [(Str.ofString "a", .str x u), (Str.ofString "b", .str y v), (Str.ofString "max_cost", .int 5 t), (Str.ofString "post", .int (-(c.1 : Int)) c.2)]) (fun _ => news)
      (fun c => c.1 ≤ preL (tl x).reverse (tl y).reverse) (fun c => n - c.1) (0, t1) F1 N1 (fun _ h => h) (all_cons rfl (all_cons rfl (all_cons rfl (all_cons e1 all_nil)))) (Nat.zero_le _) ?turn (by assumption)
    case turn =>
      clear F1 N1 e1
      rintro ⟨k, t2⟩ u2 h tk Qn p1 F2 N2 hQn
      dsimp only at p1 F2 N2 hQn
      have hk5 : k < n := by lia
      have ga : (tl x).reverse.getD k 0 = (tl x).getD (x.length - 1 - k) 0 := by
        rw [List.getD_eq_getElem?_getD, List.getD_eq_getElem?_getD, List.getElem?_reverse (by rw [tl_len, hx]; exact hk5), tl_len]
      have gb : (tl y).reverse.getD k 0 = (tl y).getD (y.length - 1 - k) 0 := by
        rw [List.getD_eq_getElem?_getD, List.getD_eq_getElem?_getD, List.getElem?_reverse (by rw [tl_len, hy]; exact hk5), tl_len]
      have hlr : (tl x).reverse.length = (tl y).reverse.length := by rw [List.length_reverse, List.length_reverse, tl_len, tl_len, hx, hy]
      have e7 : -(k : Int) - 1 = -((k + 1 : Nat) : Int) := by lia
      rcases Nat.eq_zero_or_pos k with hk0 | hk0
      all_goals ((try dsimp only); (try k_fold); walk_at "go")
      all_goals (refine Halt.out ?_; rename Fr _ _ _ _ => F3; rename News _ _ _ _ => N3; rename (_ == _) = _ => hq; rw [item_neg (by rw [hx]; exact hk5), item_neg (by rw [hy]; exact hk5), ← ga, ← gb] at hq)
      all_goals first
        | (show Qn _
           rw [beq_sign] at hq
           have hs := preL_step (k := k) hlr p1 (by rw [List.length_reverse, tl_len, hx]; exact hk5) hq
           simp only [e7] at F3
           obtain ⟨t6, e6⟩ := fr_int F3 (Str.ofString "post") (-((k + 1 : Nat) : Int)) rfl
           exact hQn (k + 1, t6) _ _ _ _ hs (by show n - (k + 1) < n - k; lia) F3 (all_cons rfl (all_cons rfl (all_cons rfl (all_cons e6 all_nil)))) N3 (fun _ h => h))
        | (have e : preL (tl x).reverse (tl y).reverse = k := preL_stop hlr p1 fun _ q => by
             rw [beq_sign.mpr q] at hq; cases hq
           exact ⟨rfl, _, _, _, (k, t2), rfl, F3, N3, e.symm⟩)
  case rest1 =>
    clear F1 N1 e1
    rintro s' ⟨h, tk, u9, ⟨k, t9⟩, rfl, F2, N2, hk9⟩
    dsimp only at hk9 F2
    have hk5 : k < n := by lia
    rcases Nat.eq_zero_or_pos k with hk0 | hk0
    all_goals ((try dsimp only); (try k_fold); walk_at "go")
    all_goals (refine Halt.out ?_; rename Fr _ _ _ _ => F3; rename News _ _ _ _ => N3; (conv at hQ in (execs _ _) => (arg 1; whnf)); (conv at hQ in (envX _ _ _ _ _ _) => (arg 2; whnf)))
    · subst hk9; rw [hk0] at hQ
      exact hQ _ _ _ _ _ _ _ F3 N3 rfl rfl rfl (by rw [← hx]; assumption) (by rw [← hy]; assumption)
    · subst hk9
      exact hQ _ _ _ _ _ _ _ F3 N3 rfl rfl rfl (by rw [← hx]; assumption) (by rw [← hy]; assumption)
end
end
section
open PySem PySem.W PyProof.Rows PySem.Flt
local macro_rules | `(tactic| walk_at "subscriptTail Name Name str int") => `(tactic| ((try dsimp only); k_here; k_dflt (refine' g_stritem (by lia) (by lia) (by lia) ?_ (by with_unfolding_all rfl) (by (intro _; with_unfolding_all rfl))); walk_at "ie"))
local macro_rules | `(tactic| walk_at "call builtin:len") => `(tactic| (k_here; (with_reducible show wpAny _ _ (call _ [Value.str _ _]) _ _ _); k_dflt (refine' g_strlen (by lia) ?_); walk_at "ie"))
local macro_rules | `(tactic| walk_at "truthy int") => `(tactic| ((try dsimp only); first | ((with_reducible refine g_int0 ?h ?_); (case h => lia)) | ((with_reducible refine g_int1 ?h ?_); (case h => lia))))
local macro_rules | `(tactic| walk_at "truthy str") => `(tactic| ((with_reducible refine g_strpos ?h ?hz ?_); (case h => lia); (case hz => lia); walk_at "ie"))
local macro_rules | `(tactic| walk_at "subscriptTail Name Slice str ref") => `(tactic| ((try dsimp only); k_here; (with_reducible rename Fr _ _ _ _ => kF); (with_reducible rename News _ _ _ _ => kN); (with_reducible (first | (refine' g_all kF kN ?z ?_ ?hs ?ht) | (refine' g_neg kF kN ?hj ?k0 ?k ?z ?_ ?hs ?ht))); (try (case hj => k_dflt (exact rfl))); (try (case k0 => lia)); (try (case k => lia)); (case z => lia); (case hs => with_unfolding_all rfl); (case ht => (intro _; with_unfolding_all rfl)); walk_at "in"))
local macro_rules | `(tactic| walk_at "execs cons") => `(tactic| ((with_reducible show wpAny _ _ (execs (Stmt.Assign [Expr.Name (Str.ofString "row") _] _ _ :: _) _) _ _ _); refine Halt.mk ?_))
section
variable {w : World} {mean : ExcName → Option Value} {mg mb : Str → Option Value} {dp un : Nat} {gd : Option (List Code)} {cn : Str} {cs : Scope} {a : Addr} {ccd : Value} {cl : List (Str × Addr)} {outer : List Env} {A₀ : Around} {base h₀ : Heap} {L : Addr} {m : Str → Option Value} {news : List (Addr × Obj)} {s : Shared} {Q : Flow → Shared → Prop} {E : Value → Shared → Prop}
set_option maxRecDepth 100000
set_option maxHeartbeats 8000000

theorem seg_l3 {x y : Str} {u v t : Tok} {n : Nat} (B : Below A₀ base outer h₀) (F : Fr h₀ L s.heap m) (X : (Mine.hd.heap_39 w.params).In h₀) (N : News h₀ L s.heap news) (T : Top Mine.hd.view_39 looseL mean mg mb h₀) (hE : PassesOwn (model Challenge.rw_sc0061_01.row.prog w) (ktrTop dp un gd (Str.ofString "_levenshtein_distance") levScope L a ccd [] outer) (envX (Str.ofString "_levenshtein_distance") levScope L a ccd []) E) (hd : dp + 12 < recursionLimit) (hx : x.length = n) (hy : y.length = n) (h1 : 1 ≤ n) (hn : n ≤ 5)
    (va : m (Str.ofString "a") = some (.str x u)) (vb : m (Str.ofString "b") = some (.str y v)) (vm : m (Str.ofString "max_cost") = some (.int 5 t))
    (hQ : ∀ h' tk m', Fr h₀ L h' m' → News h₀ L h' news → m' (Str.ofString "a") = some (.str x u) → m' (Str.ofString "b") = some (.str y v) → m' (Str.ofString "max_cost") = some (.int 5 t) →
      wpAny (model Challenge.rw_sc0061_01.row.prog w) (ktrTop dp un gd (Str.ofString "_levenshtein_distance") levScope L a ccd [] outer) (execs (levBody.drop 13) (envX (Str.ofString "_levenshtein_distance") levScope L a ccd [])) Q E { s with heap := h', toks := tk }) :
    wpAny (model Challenge.rw_sc0061_01.row.prog w) (ktrTop dp un gd (Str.ofString "_levenshtein_distance") levScope L a ccd [] outer) (execs (levBody.drop 9) (envX (Str.ofString "_levenshtein_distance") levScope L a ccd [])) Q E s := by
  have F1 := kst_self F (ps := [(Str.ofString "a", .str x u), (Str.ofString "b", .str y v), (Str.ofString "max_cost", .int 5 t)]) (all_cons va (all_cons vb (all_cons vm all_nil)))
  clear F
  revert X
  k_fill
  intro X
  conv in (execs _ _) => (arg 1; whnf)
  conv in (envX _ _ _ _ _ _) => (arg 2; whnf)
  walk_at "go"
  refine Halt.out ?_
  rename Fr _ _ _ _ => F3
  rename News _ _ _ _ => N3
  exact hQ _ _ _ F3 N3 rfl rfl rfl
end
end
section
open PySem PySem.W PyProof.Rows PySem.Flt

def levX (X Y : List Nat) : List Nat := (X.drop (preL X Y)).take (X.length - preL X Y - preL (X.drop (preL X Y)).reverse (Y.drop (preL X Y)).reverse)
def levY (X Y : List Nat) : List Nat := (Y.drop (preL X Y)).take (X.length - preL X Y - preL (X.drop (preL X Y)).reverse (Y.drop (preL X Y)).reverse)
def strL (X : List Nat) : Str := ⟨X.toArray⟩
abbrev levC (X Y : List Nat) : Nat → Nat → Int := ccS (strL (levX X Y)) (strL (levY X Y))
def levT (X Y : List Nat) : Int := if X = Y then 0 else (outRun (levC X Y) (levX X Y).length (levX X Y).length).2
structure LevOk (X Y : List Nat) : Prop where
  pre : preL X Y < X.length
  post : preL (X.drop (preL X Y)).reverse (Y.drop (preL X Y)).reverse < X.length - preL X Y
  low : ∀ i, i < (levX X Y).length → (rowRun (levC X Y i) (levX X Y).length (outRun (levC X Y) (levX X Y).length i).1 i).2.2.2 ≤ 5
theorem strL_of {z : Str} {X : List Nat} (h : tl z = X) : z = strL X := by
  subst h; cases z; rfl
theorem len_of {z : Str} {X : List Nat} (h : tl z = X) : z.length = X.length := by rw [← h, tl_len]
local macro_rules | `(tactic| walk_at "execs cons") => `(tactic| ((with_reducible show wpAny _ _ (execs (Stmt.Assign [Expr.Name (Str.ofString "pre") _] _ _ :: _) _) _ _ _); refine Halt.mk ?_))
section
variable {w : World} {mean : ExcName → Option Value} {mg mb : Str → Option Value} {dp un : Nat} {gd : Option (List Code)} {cn : Str} {cs : Scope} {a : Addr} {ccd : Value} {cl : List (Str × Addr)} {outer : List Env} {A₀ : Around} {base h₀ : Heap} {L : Addr} {m : Str → Option Value} {news : List (Addr × Obj)} {s : Shared} {Q E : Value → Shared → Prop}
set_option maxRecDepth 100000
set_option maxHeartbeats 8000000

theorem c_lev {x y : Str} {u v t : Tok} (B : Below A₀ base outer h₀) (F : Fr h₀ L s.heap m) (X : (Mine.hd.heap_39 w.params).In h₀) (N : News h₀ L s.heap news) (T : Top Mine.hd.view_39 looseL mean mg mb h₀) (hk : cs.kind = .function) (hd : dp + 24 < recursionLimit) (hx : x.length = 5) (hy : y.length = 5) (hok : tl x ≠ tl y → LevOk (tl x) (tl y))
    (hret : ∀ h' tk t, Fr h₀ L h' m → News h₀ L h' news → Q (.int (levT (tl x) (tl y)) t) { s with heap := h', toks := tk }) :
    wpAny (model Challenge.rw_sc0061_01.row.prog w) (ktrTop dp un gd cn cs L a ccd cl outer) (call (.ref 101) [.str x u, .str y v, .int 5 t]) Q E s := by
  revert X
  k_fill
  intro X
  refine wpAny_call ?_
  k_dflt ktr_enter
  walk_at "go"
  · have e : tl x = tl y := congrArg tl (eq_of_beq (by assumption))
    unfold levT at hret; rw [if_pos e] at hret
    exact hret _ _ _ (by assumption) (by assumption)
  refine Halt.out ?_
  rename Fr _ _ _ _ => F1
  rename News _ _ _ _ => N1
  have ne : tl x ≠ tl y := fun q => by
    have e : x = y := by rw [strL_of (z := x) rfl, strL_of (z := y) rfl, q]
    rename (_ == _) = false => hb
    rw [beq_eq_false_iff_ne] at hb; exact hb e
  have ok := hok ne
  have hlx : (tl x).length = 5 := by rw [tl_len, hx]
  have hly : (tl y).length = 5 := by rw [tl_len, hy]
  rename Below _ _ _ _ => B1
  refine seg_l1 (n := 5) (dp := dp + 1) (Q := qk) (E := ek) (by assumption) F1 (by assumption) N1 (by assumption) (by passes_own) (by lia) hx hy (by lia) rfl rfl rfl ?_
  intro h1 k1 m1 z1 z2 t1 t2 F2 N2 a1 b1 c1 ez1 ez2
  have lz1 : z1.length = 5 - preL (tl x) (tl y) := by rw [len_of ez1, List.length_drop, hlx]
  have lz2 : z2.length = 5 - preL (tl x) (tl y) := by rw [len_of ez2, List.length_drop, hly]
  have ok1 := ok.pre; have ok2 := ok.post; have ok3 := ok.low
  rw [hlx] at ok1 ok2
  refine seg_l2 (n := 5 - preL (tl x) (tl y)) (dp := dp + 1) (Q := qk) (E := ek) (by assumption) F2 (by assumption) N2 (by assumption) (by passes_own) (by lia) lz1 lz2 (by lia) (by lia) (by rw [ez1, ez2]; exact ok2) a1 b1 c1 ?_
  intro h2 k2 m2 z3 z4 t3 t4 F3 N3 a2 b2 c2 ez3 ez4
  have e3 : tl z3 = levX (tl x) (tl y) := by rw [ez3, ez1, ez2]; unfold levX; rw [hlx]
  have e4 : tl z4 = levY (tl x) (tl y) := by rw [ez4, ez1, ez2]; unfold levY; rw [hlx]
  have l3 : (levX (tl x) (tl y)).length = 5 - preL (tl x) (tl y) - preL ((tl x).drop (preL (tl x) (tl y))).reverse ((tl y).drop (preL (tl x) (tl y))).reverse := by
    unfold levX; rw [List.length_take, List.length_drop, hlx]; lia
  have l4 : (levY (tl x) (tl y)).length = 5 - preL (tl x) (tl y) - preL ((tl x).drop (preL (tl x) (tl y))).reverse ((tl y).drop (preL (tl x) (tl y))).reverse := by
    unfold levY; rw [List.length_take, List.length_drop, hlx, hly]; lia
  have lz3 : z3.length = (levX (tl x) (tl y)).length := len_of e3
  have lz4 : z4.length = (levX (tl x) (tl y)).length := by rw [len_of e4, l4, l3]
  refine seg_l3 (n := (levX (tl x) (tl y)).length) (dp := dp + 1) (Q := qk) (E := ek) (by assumption) F3 (by assumption) N3 (by assumption) (by passes_own) (by lia) lz3 lz4 (by lia) (by lia) a2 b2 c2 ?_
  intro h3 k3 m3 F4 N4 a3 b3 c3
  refine seg_dp (M := (levX (tl x) (tl y)).length) (dp := dp + 1) (Q := qk) (E := ek) (by assumption) F4 (by assumption) N4 (by assumption) (by passes_own) (by lia) lz3 lz4 (by lia) (by lia) a3 b3 c3 ?_ ?_
  · rw [strL_of e3, strL_of e4]; exact ok3
  intro h4 k4 t9 u9 F5 N5
  rw [strL_of e3, strL_of e4] at *
  unfold levT at hret; rw [if_neg ne] at hret
  walk_at "go"
  all_goals exact hret _ _ _ (by assumption) (by assumption)
end
end
section
open PySem PySem.W PyProof.Rows PySem.Flt

theorem ints_step {f : Int → Int} {ns : List Int} {ys : List Value} {j : Nat} {t : Tok} (h : IntsAre ys ((ns.take j).map f)) (hj : j < ns.length) : IntsAre (ys ++ [.int (f (ns.getD j 0)) t]) ((ns.take (j + 1)).map f) := by
  have e : ns.take (j + 1) = ns.take j ++ [ns.getD j 0] := by
    rw [List.take_succ, List.getD_eq_getElem?_getD, List.getElem?_eq_getElem hj]; rfl
  rw [e, List.map_append]
  exact h.append (.cons _ _ .nil)
def grStep (r : List Int) (k : Nat) : Bool := decide ((r.take k).sum ≤ (k : Int) * ((k : Int) - 1) + ((r.drop k).map fun x => minI x k).sum)
def grT (r : List Int) : Bool := (List.range 5).all (fun i => grStep r (i + 1)) && decide (r.sum % 2 = 0)
local macro_rules | `(tactic| walk_at "exec For Name Call cons nil") => `(tactic| (k_here; (with_reducible rename Fr _ _ _ _ => lF'); k_dflt (refine' For_invVF lF' (by rfl) (by rfl) ?_ (by (intro _; rfl)) (by assumption))))
local macro_rules | `(tactic| walk_at "call type:range") => `(tactic| (k_here; k_dflt (first
  | (refine' g_range1 (by k_asm) (by k_asm) ?_)
  | (refine' g_range2 (by k_asm) (by k_asm) ?_)
  | (refine' g_range3 (by k_asm) (by k_asm) (by decide) (by decide) ?_)); walk_at "in"))
local macro_rules | `(tactic| walk_at "pyIter ref") => `(tactic| refine Halt.mk ?_)
local macro_rules | `(tactic| walk_at "call builtin:min") => `(tactic| (k_here; k_dflt (refine' g_min (by rfl) (by k_asm) (by k_asm) ?_); walk_at "in"))
local macro_rules | `(tactic| walk_at "binaryOp Mult int int") => `(tactic| ((with_reducible first | refine g_mulr ?k1 ?_ | refine g_mull ?k1 ?_); (case k1 => decide); walk_at "ie"))
local macro_rules | `(tactic| walk_at "exec For Name Call cons nil") => `(tactic| (k_here; (with_reducible rename Fr _ _ _ _ => lF'); k_dflt (refine' For_unrF lF' ?_ (by (intro _; rfl)) (by passes_own))))
local macro_rules | `(tactic| walk_at "call builtin:sorted") => `(tactic| (k_here; k_dflt (refine' g_sortrev (by k_asm) (by k_asm) (by (walk_at "mem")) (by assumption) (by lia) ?_); walk_at "in"))
local macro_rules | `(tactic| walk_at "call builtin:sum") => `(tactic| (k_here; k_dflt (refine' g_sum (by rfl) (by k_asm) (by k_asm) (by (walk_at "mem")) (by (first | assumption | exact IntsAre.take (by assumption) _ | exact IntsAre.drop (by assumption) _)) ?_); walk_at "in"))
local macro_rules | `(tactic| walk_at "subscriptTail Name Slice ref ref") => `(tactic| ((try dsimp only); k_here; (with_reducible rename Fr _ _ _ _ => kF); (with_reducible rename News _ _ _ _ => kN); (with_reducible (first | (refine' g_lto kF kN ?hm ?hj ?z ?_ ?hs ?ht) | (refine' g_lfrom kF kN ?hm ?hj ?z ?_ ?hs ?ht))); k_dflt ((case hm => (walk_at "mem")); (case hj => k_dflt (exact rfl)); (case z => lia); (case hs => with_unfolding_all rfl); (case ht => (intro _; with_unfolding_all rfl))); walk_at "in"))
local macro_rules | `(tactic| walk_at "storeName int") => `(tactic| (k_here; k_dflt (refine' storeX_C ?F ?N ?c ?U ?d ?_ ?a ?b; (case a => rfl); (case b => rfl); (case F => k_asm); (case N => k_asm); (case c => rfl); (case U => exact UpdF.tail (by assumption) (UpdF.head (by assumption))); (case d => k_asm); k_whole); intro h' o' F' N' d'; (try dsimp only at N'); (try k_sweep); (try dsimp only)))
local macro_rules | `(tactic| walk_at "CompSrc") => `(tactic| refine Halt.mk ?_)
local macro_rules | `(tactic| walk_at "eval ListComp Call cons") => `(tactic| (k_here; k_dflt (refine' LCg.ListComp_U (by k_asm) (by with_unfolding_all rfl) (by decide) (by rfl) (by decide) (by rfl) ?q6 (by (intro _; rfl))); (try dsimp only)))
local macro_rules | `(tactic| walk_at "enterC") => `(tactic| (refine' code_defC ?k1 ?k2 ?k3 ?k4 ?k5 ?kA ?kF ?kK ?k6 ?k7 ?k8 ?k9 ?kB ?kD ?_ ?c2 ?c3 ?c4; (case kA => exact rfl); (case kF => exact rfl); (case kK => assumption); (case k1 => k_asm); (case k2 => k_asm); (case k3 => k_asm); (case k4 => k_asm); (case k5 => k_asm); (case k6 => k_is); (case k7 => k_is); (case k8 => ktr_room); (case k9 => exact BindsTo.of_eq rfl); (case kB => exact rfl); (case kD => decide +kernel); (case c2 => exact rfl); (case c3 => exact rfl); (case c4 => exact rfl); k_whole; intro g' L' h' tk' cells' FG' F' N' Y' B' X' T' l1; (try k_lt l1); k_cells Y'; (try simp only [List.cons_append, List.nil_append] at N'); (try dsimp only); (try k_fold)))
section
variable {w : World} {mean : ExcName → Option Value} {mg mb : Str → Option Value} {dp un : Nat} {gd : Option (List Code)} {cn : Str} {cs : Scope} {a : Addr} {ccd : Value} {cl : List (Str × Addr)} {outer : List Env} {A₀ : Around} {base h₀ : Heap} {L : Addr} {m : Str → Option Value} {news : List (Addr × Obj)} {s : Shared} {Q E : Value → Shared → Prop}
set_option maxRecDepth 100000
set_option maxHeartbeats 8000000

theorem c_graph {W : Addr} {vs : List Value} {nW : Nat} {ns : List Int} (B : Below A₀ base outer h₀) (F : Fr h₀ L s.heap m) (X : (Mine.hd.heap_39 w.params).In h₀) (N : News h₀ L s.heap news) (T : Top Mine.hd.view_39 looseL mean mg mb h₀) (hk : cs.kind = .function) (hd : dp + 6 < recursionLimit) (hm : (W, listOf vs.toArray nW) ∈ news) (hI : IntsAre vs ns) (hl : ns.length = 5)
    (hret : ∀ h' tk r, r.Perm ns → r.Pairwise (· ≥ ·) → Fr h₀ L h' m → News h₀ L h' news → Q (.bool (grT r)) { s with heap := h', toks := tk }) :
    wpAny (model Challenge.rw_sc0061_01.row.prog w) (ktrTop dp un gd cn cs L a ccd cl outer) (call (.ref 113) [.ref W]) Q E s := by
  have hlv : vs.length = 5 := by rw [hI.length, hl]
  revert X
  k_fill
  intro X
  refine wpAny_call ?_
  k_dflt (walk_at "enterC")
  walk_at "go"
  refine Halt.out ?_
  rename_i g2 L2 _ _ FG B2 X2 T2 l3 o2 d2 _ _ D2 vs2 ns2 e2 l2 hi2 hp2 ho2 _ _ _ _ _ _ r1 _ _ _ _ _ R1 F1 N1
  have hn2 : ns2.length = 5 := by rw [hp2.length_eq, hl]
  have hv2 : vs2.length = 5 := by rw [hi2.length, hn2]
  have hd1 : ∃ v, o2.data = .cell v := ⟨_, d2⟩
  refine iter_rangeT_st (n := 5) (σ := Obj) (fun c => [(Str.ofString "wishes", .ref W), (Str.ofString "row", .ref D2)]) (fun c => (D2, listOf vs2.toArray e2) :: (L2 + 1, c) :: news)
    (fun i c => (∃ v, c.data = .cell v) ∧ ∀ j, j < i → grStep ns2 (j + 1) = true) o2 rfl R1 (by decide) (by decide) F1 N1 (fun _ h => h) (all_cons rfl (all_cons rfl all_nil)) ⟨hd1, fun j hj => absurd hj (Nat.not_lt_zero _)⟩ ?turn ?done
  case done =>
    clear F1 N1 R1
    rintro c u h tk ⟨⟨v0, hv0⟩, hall⟩ F3 N3
    (try dsimp only); (try k_fold)
    walk_at "go"
    have hg : (ns2.sum % 2 == 0) = grT ns2 := by
      have : (List.range 5).all (fun i => grStep ns2 (i + 1)) = true := List.all_eq_true.mpr fun j hj => hall j (List.mem_range.mp hj)
      unfold grT; rw [this, Bool.true_and]
      by_cases q : ns2.sum % 2 = 0
      · simp [q]
      · simp [q]
    rw [hg]
    rename News _ _ _ _ => N9
    exact hret _ _ _ hp2 ho2 (by assumption) (Mine.News.sub N9 fun _ h => .tail _ (.tail _ h))
  case turn =>
    clear F1 N1 R1
    rintro I i t c u h tk own Qn hI i5 ⟨⟨v0, hv0⟩, hall⟩ hoff hown had F3 N3 hQn
    dsimp only at N3 hQn
    (try dsimp only); (try k_fold)
    simp only [List.cons_append] at N3
    rw [show (1 : Int) + (i : Int) * 1 = ((i + 1 : Nat) : Int) by lia]
    have hne1 : D2 ≠ L2 + 1 := Ne.symm (Nat.ne_of_lt (l2 _ (.head _)))
    have hne2 : ∀ p ∈ news ++ own, p.1 ≠ L2 + 1 := fun p hp => by
      rcases List.mem_append.mp hp with q | q
      · exact Nat.ne_of_lt (Nat.lt_succ_of_lt (l3 p q))
      · rw [hown p q]; exact fun e => hoff _ (.tail _ (.head _)) e.symm
    walk_at "go"
    refine Halt.out ?_
    rename Fr _ _ _ _ => F5
    rename News _ _ _ _ => N5
    have hd5 : (vs2.drop (i + 1)).length ≤ 1000 := by rw [List.length_drop]; lia
    refine compL_st (σ := Unit) (vs := vs2.drop (i + 1)) (Led := fun _ => _) (P := fun j ys _ => IntsAre ys (((ns2.drop (i + 1)).take j).map fun x => minI x ((i + 1 : Nat) : Int))) () rfl F5 N5 (fun _ => .head _) hd5 .nil ?tt ?ff
    case tt =>
      rintro g j v ys c9 I9 oI9 C9 oC9 D9 m9 h9 tk9 E9 Qe hj hv hI9 hNs hx F9 N9 hoff9 hne9 hQe
      obtain ⟨t9, rfl⟩ := IntsAre.int_at (hi2.drop (i + 1)) j v hv
      (try dsimp only)
      walk_at "go"
      exact hQe _ () _ _ (ints_step hI9 (by rw [List.length_drop] at hj ⊢; lia)) (by assumption) (by assumption) hoff9
    case ff =>
    rintro ys c9 D9 h9 tk9 hI9 F9 N9 hoff9
    dsimp only at hI9 N9 hoff9 ⊢
    rw [List.take_of_length_le (by rw [List.length_drop, List.length_drop, hv2, hn2]; exact Nat.le_refl _)] at hI9
    walk_at "go"
    all_goals refine Halt.out ?_
    · rename _ < _ => hlt
      have hf : grT ns2 = false := by
        have : (List.range 5).all (fun i => grStep ns2 (i + 1)) = false := by
          rw [List.all_eq_false]
          refine ⟨i, List.mem_range.mpr i5, ?_⟩
          unfold grStep
          rw [decide_eq_true_iff]
          exact Int.not_le.mpr hlt
        unfold grT; rw [this, Bool.false_and]
      have hr2 := fun h' tk a b => hret h' tk ns2 hp2 ho2 a b
      rw [hf] at hr2
      dsimp only
      walk_at "go"
      refine Halt.out ?_
      unfold FlowPost
      dsimp only
      walk_at "go"
      rename News _ _ _ _ => N9
      exact hr2 _ _ (by assumption) (Mine.News.sub N9 fun p hp9 => by walk_at "deep")
    · rename ¬ (_ < _) => hlt
      show Qn _
      rename Fr _ _ _ _ => F5
      rename News _ _ _ _ => N5
      rename Obj => oc
      refine hQn oc _ _ _ _ ⟨⟨_, by assumption⟩, fun j hj => ?_⟩ rfl F5 (all_cons rfl (all_cons rfl all_nil)) N5 (fun p hp9 => by dsimp only [List.cons_append] at hp9; walk_at "deep")
      by_cases q : j < i
      · exact hall j q
      · have e : j = i := by lia
        subst e
        unfold grStep
        exact decide_eq_true (Int.not_lt.mp hlt)
end
end
section
local macro_rules | `(tactic| walk_at "exec For Name Call cons nil") => `(tactic| (k_here; (with_reducible rename Fr _ _ _ _ => lF'); k_dflt (refine' For_invVF lF' (by rfl) (by rfl) ?_ (by (intro _; rfl)) (by assumption))))
local macro_rules | `(tactic| walk_at "call type:range") => `(tactic| (k_here; k_dflt (first
  | (refine' g_range1 (by k_asm) (by k_asm) ?_)
  | (refine' g_range2 (by k_asm) (by k_asm) ?_)
  | (refine' g_range3 (by k_asm) (by k_asm) (by decide) (by decide) ?_)); walk_at "in"))
local macro_rules | `(tactic| walk_at "pyIter ref") => `(tactic| refine Halt.mk ?_)
local macro_rules | `(tactic| walk_at "call builtin:min") => `(tactic| (k_here; k_dflt (refine' g_min (by rfl) (by k_asm) (by k_asm) ?_); walk_at "in"))
local macro_rules | `(tactic| walk_at "binaryOp Mult int int") => `(tactic| ((with_reducible first | refine g_mulr ?k1 ?_ | refine g_mull ?k1 ?_); (case k1 => decide); walk_at "ie"))
local macro_rules | `(tactic| walk_at "callWith") => `(tactic| ((try dsimp only); first | (with_reducible refine callWith_method0 ?_) | ((first | ((with_reducible show wpAny _ _ (callWith _ (Value.builtin _) [] _ []) _ _ _); (with_reducible refine callWith_builtin1 ?h ?he ?hp)) | ((with_reducible show wpAny _ _ (callWith _ (Value.builtin _) (_ :: _) _ []) _ _ _); (with_reducible refine callWith_method1 ?h ?he ?hp))); (case he => k_dflt (exact rfl)); (case hp => k_dflt (exact rfl)))))
local macro_rules | `(tactic| walk_at "callWith builtin:sum") => `(tactic| ((try dsimp only); first | (with_reducible refine callWith_method0 ?_) | ((first | ((with_reducible show wpAny _ _ (callWith _ (Value.builtin _) [] _ []) _ _ _); (with_reducible refine callWith_builtin1 ?h ?he ?hp)) | ((with_reducible show wpAny _ _ (callWith _ (Value.builtin _) (_ :: _) _ []) _ _ _); (with_reducible refine callWith_method1 ?h ?he ?hp))); (case he => k_dflt (exact rfl)); (case hp => k_dflt (exact rfl)))))
local macro_rules | `(tactic| walk_at "callWith builtin:len") => `(tactic| ((try dsimp only); first | (with_reducible refine callWith_method0 ?_) | ((first | ((with_reducible show wpAny _ _ (callWith _ (Value.builtin _) [] _ []) _ _ _); (with_reducible refine callWith_builtin1 ?h ?he ?hp)) | ((with_reducible show wpAny _ _ (callWith _ (Value.builtin _) (_ :: _) _ []) _ _ _); (with_reducible refine callWith_method1 ?h ?he ?hp))); (case he => k_dflt (exact rfl)); (case hp => k_dflt (exact rfl)))))
local macro_rules | `(tactic| walk_at "callWith builtin:list.append") => `(tactic| ((try dsimp only); first | (with_reducible refine callWith_method0 ?_) | ((first | ((with_reducible show wpAny _ _ (callWith _ (Value.builtin _) [] _ []) _ _ _); (with_reducible refine callWith_builtin1 ?h ?he ?hp)) | ((with_reducible show wpAny _ _ (callWith _ (Value.builtin _) (_ :: _) _ []) _ _ _); (with_reducible refine callWith_method1 ?h ?he ?hp))); (case he => k_dflt (exact rfl)); (case hp => k_dflt (exact rfl)))))
local macro_rules | `(tactic| walk_at "nd") => `(tactic| first | exact List.nodup_nil | (apply nd_cons; (walk_at "off"); walk_at "nd"))
local macro_rules | `(tactic| walk_at "ne") => `(tactic| ((try dsimp only); first | with_reducible assumption | (apply Ne.symm; with_reducible assumption) | (apply fresh_ne; (with_reducible assumption); walk_at "deep") | (apply Ne.symm; apply fresh_ne; (with_reducible assumption); walk_at "deep") | (apply off_ne; (with_reducible assumption); walk_at "deep") | (apply Ne.symm; apply off_ne; (with_reducible assumption); walk_at "deep") | (refine Nat.ne_of_gt ?_; lia) | (refine Nat.ne_of_lt ?_; lia)))
local macro_rules | `(tactic| walk_at "off") => `(tactic| first | with_reducible assumption | exact off_nil | (apply off_cons; (walk_at "ne"); walk_at "off"))
local macro_rules | `(tactic| walk_at "upd") => `(tactic| first | (with_reducible apply Upd.head; walk_at "off") | (apply Upd.tail; (walk_at "ne"); walk_at "upd"))
local macro_rules | `(tactic| walk_at "updF") => `(tactic| first | (with_reducible apply UpdF.head; walk_at "off") | (apply UpdF.tail; (walk_at "ne"); walk_at "updF"))
local macro_rules | `(tactic| walk_at "call builtin:list.append") => `(tactic| (k_here; k_dflt (refine' g_append (by k_asm) (by k_asm) (by walk_at "upd") (by lia) ?_); intro h' F' N'; (try dsimp only at N'); (try k_sweep); (try dsimp only)))
local macro_rules | `(tactic| walk_at "sub") => `(tactic| with_reducible first | exact List.mem_cons_self | assumption | exact sub_nil | exact sub_refl | (refine List.mem_cons_of_mem _ ?_; walk_at "sub") | (refine List.mem_append_left _ ?_; walk_at "sub") | (refine List.mem_append_right _ ?_; walk_at "sub") | (refine sub_app ?_ ?_; (walk_at "sub"); walk_at "sub") | (refine sub_cons ?_ ?_; (walk_at "sub"); walk_at "sub") | (refine sub_tail ?_; walk_at "sub") | (refine sub_l ?_; walk_at "sub") | (refine sub_r ?_; walk_at "sub"))
local macro_rules | `(tactic| walk_at "eval Constant int") => `(tactic| ((with_reducible refine g_cintN ?_); walk_at "ie"))
local macro_rules | `(tactic| walk_at "call builtin:sum") => `(tactic| (k_here; k_dflt (refine' g_sum (by rfl) (by k_asm) (by k_asm) (by (walk_at "mem")) (by (first | assumption | exact IntsAre.take (by assumption) _ | exact IntsAre.drop (by assumption) _ | exact IntsAre.pick (by assumption) _ _ _)) ?_); walk_at "in"))
local macro_rules | `(tactic| walk_at "subscriptTail Name Slice ref ref") => `(tactic| ((try dsimp only); k_here; (with_reducible rename Fr _ _ _ _ => kF); (with_reducible rename News _ _ _ _ => kN); (with_reducible (first | (refine' g_lto kF kN ?hm ?hj ?z ?_ ?hs ?ht) | (refine' g_lfrom kF kN ?hm ?hj ?z ?_ ?hs ?ht))); k_dflt ((case hm => (walk_at "mem")); (case hj => k_dflt (exact rfl)); (case z => lia); (case hs => with_unfolding_all rfl); (case ht => (intro _; with_unfolding_all rfl))); walk_at "in"))
local macro_rules | `(tactic| walk_at "CompSrc") => `(tactic| refine Halt.mk ?_)
section
open PySem PySem.W PyProof.Rows PySem.Flt
local macro_rules | `(tactic| walk_at "subscriptTail Name Slice ref ref") => `(tactic| ((try dsimp only); k_here; (with_reducible rename Fr _ _ _ _ => kF); (with_reducible rename News _ _ _ _ => kN); (with_reducible refine' g_step kF kN ?l ?o ?_ ?s ?t ?z); (case l => k_dflt (exact Fr.lst kF (by assumption))); (case o => k_dflt decide); (case s => with_unfolding_all rfl); (case t => (intro _; with_unfolding_all rfl)); (case z => lia); walk_at "in"))
section
variable {w : World} {mean : ExcName → Option Value} {mg mb : Str → Option Value} {dp un : Nat} {gd : Option (List Code)} {cn : Str} {cs : Scope} {a : Addr} {ccd : Value} {cl : List (Str × Addr)} {outer : List Env} {A₀ : Around} {base h₀ : Heap} {L : Addr} {m : Str → Option Value} {news : List (Addr × Obj)} {s : Shared} {Q : Flow → Shared → Prop} {E : Value → Shared → Prop}
set_option maxRecDepth 100000
set_option maxHeartbeats 8000000

theorem seg_h1 {S : Addr} {ss : List Value} {ns : List Int} (B : Below A₀ base outer h₀) (F : Fr h₀ L s.heap m) (X : (Mine.hd.heap_39 w.params).In h₀) (N : News h₀ L s.heap news) (T : Top Mine.hd.view_39 looseL mean mg mb h₀) (hd : dp + 40 < recursionLimit) (hE : PassesOwn (model Challenge.rw_sc0061_01.row.prog w) (ktrTop dp un gd (Str.ofString "law") lawScope L a ccd [(Str.ofString "mails", L + 1 + 1), (Str.ofString "ends", L + 1)] outer) (envX (Str.ofString "law") lawScope L a ccd [(Str.ofString "mails", L + 1 + 1), (Str.ofString "ends", L + 1)]) E) (vs : m (Str.ofString "script") = some (.ref S)) (hS : h₀.IsList S ss.toArray) (hI : IntsAre ss ns) (hz : ss.length ≤ 63)
    (hQ : ∀ h' tk D n vs ds m', Fr h₀ L h' m' → m' (Str.ofString "drawn") = some (.ref D) → News h₀ L h' ((D, listOf vs.toArray n) :: news) → (∀ p ∈ news, p.1 < D) → IntsAre vs ds → ds.length = 7 → (∀ d ∈ ds, 0 ≤ d) → wpAny (model Challenge.rw_sc0061_01.row.prog w) (ktrTop dp un gd (Str.ofString "law") lawScope L a ccd [(Str.ofString "mails", L + 1 + 1), (Str.ofString "ends", L + 1)] outer) (execs (lawBody.drop 2) (envX (Str.ofString "law") lawScope L a ccd [(Str.ofString "mails", L + 1 + 1), (Str.ofString "ends", L + 1)])) Q E { s with heap := h', toks := tk }) :
    wpAny (model Challenge.rw_sc0061_01.row.prog w) (ktrTop dp un gd (Str.ofString "law") lawScope L a ccd [(Str.ofString "mails", L + 1 + 1), (Str.ofString "ends", L + 1)] outer) (execs (lawBody.drop 0) (envX (Str.ofString "law") lawScope L a ccd [(Str.ofString "mails", L + 1 + 1), (Str.ofString "ends", L + 1)])) Q E s := by
  have F1 := kst_self F (ps := [(Str.ofString "script", .ref S)]) (all_cons vs all_nil)
  clear F
  revert X
  k_fill
  intro X
  conv in (execs _ _) => (arg 1; whnf)
  conv in (envX _ _ _ _ _ _) => (arg 2; whnf)
  walk_at "go"
  refine Halt.out ?_
  rename_i D _ l1 _ _ _ _ r _ _ _ _ _ R2 F2 N2
  refine iter_up_st (n := 7) (σ := List Value × Nat × List Int) (fun c => [(Str.ofString "script", .ref S), (Str.ofString "drawn", .ref D)])
    (fun c => (D, listOf c.1.toArray c.2.1) :: news) (fun i c => IntsAre c.1 c.2.2 ∧ c.2.2.length = i ∧ ∀ d ∈ c.2.2, 0 ≤ d) ([], 0, []) rfl R2 rfl (by lia) F2 N2 (fun _ h => h) (all_cons rfl (all_cons rfl all_nil)) ⟨.nil, rfl, fun _ h => nomatch h⟩ ?turn ?done
  case done =>
    clear F2 N2 R2
    rintro ⟨vs2, n2, ds⟩ u h tk ⟨p1, p2, p3⟩ F3 N3
    exact hQ _ _ D n2 vs2 ds _ F3 rfl N3 l1 p1 p2 p3
  case turn =>
    clear F2 N2 R2
    rintro I i t ⟨vs2, n2, ds⟩ u h tk own Qn hlt hi ⟨p1, p2, p3⟩ hoff ⟨oI, hI9⟩ hown F3 N3 hQn
    dsimp only at p1 p2 p3 hoff F3 N3 hQn
    simp only [List.cons_append] at N3
    have hoffD : ∀ p ∈ news ++ own, p.1 ≠ D := fun p hp => by
      rcases List.mem_append.mp hp with q | q
      · exact Nat.ne_of_lt (l1 p q)
      · rw [hown p q]; exact fun e => hoff _ (.head _) e.symm
    have hl9 := p1.length
    (try dsimp only); (try k_fold)
    walk_at "go"
    refine Halt.out ?_
    show Qn _
    rename Fr _ _ _ _ => F5
    rename News _ _ _ _ => N5
    refine hQn (vs2 ++ [_], n2 + 1, ds ++ [_]) _ _ _ _ ⟨p1.append (.cons _ _ .nil), by rw [List.length_append, p2]; rfl, fun d hd9 => ?_⟩ (fun p hp => ?_) F5 (all_cons rfl (all_cons rfl all_nil)) N5 (fun p hp9 => by dsimp only [List.cons_append] at hp9; walk_at "deep")
    · rcases List.mem_append.mp hd9 with q | q
      · exact p3 d q
      · rw [List.mem_singleton.mp q]; first | exact Int.fmod_nonneg_of_pos _ (by decide) | exact Int.emod_nonneg _ (by decide)
    · rcases List.mem_cons.mp hp with rfl | hp
      · exact hoff (D, listOf vs2.toArray n2) (.head _)
      · exact hoff p (.tail _ hp)
end
end
section
open PySem PySem.W PyProof.Rows PySem.Flt
local macro_rules | `(tactic| walk_at "storeName ref") => `(tactic| (k_here; k_dflt (refine' storeX_C ?F ?N ?c ?U ?d ?_ ?a ?b; (case a => rfl); (case b => rfl); (case F => k_asm); (case N => k_asm); (case c => rfl); (case U => walk_at "updF"); (case d => k_asm); k_whole); intro h' o' F' N' d'; (try dsimp only at N'); (try k_sweep); (try dsimp only)))
local macro_rules | `(tactic| walk_at "lit") => `(tactic| first | lia | (simp only [show (Str.ofString "abcde").length = 5 from rfl, show (Str.ofString "ABCDE").length = 5 from rfl]; lia))
local macro_rules | `(tactic| walk_at "subscriptTail Name Name ref int") => `(tactic| ((try dsimp only); k_here; k_dflt (refine' g_item_strs (by k_asm) (by (walk_at "mem")) (by with_reducible assumption) (by lia) (by lia) (by lia) ?_ (by with_unfolding_all rfl)); walk_at "ie"))
local macro_rules | `(tactic| walk_at "binaryOp Add str str") => `(tactic| (k_here; k_dflt (refine' g_addstr (by first | lia | (simp only [Str.length_append]; lia)) ?_); walk_at "ie"))
local macro_rules | `(tactic| walk_at "execs cons") => `(tactic| ((with_reducible show wpAny _ _ (execs (Stmt.For _ _ _ _ _ :: _) _) _ _ _); refine Halt.mk ?_))

def RowOk (p : Addr × Obj) : Prop := ∃ us, p.2 = listOf (List.toArray us) 0 ∧ ∃ ss, StrsAre us ss ∧ ss.map tl = [[97], [98], [99], [100], [101]]
def endT (x : Int) : List Nat := if x / 8 % 3 = 0 then [10] else if x / 8 % 3 = 1 then [13] else [13, 10]
theorem endT_len (l : List Int) (j : Nat) : ((l.map endT).getD j []).length ≤ 2 := by
  rw [List.getD_eq_getElem?_getD, List.getElem?_map]
  cases l[j]? with
  | none => exact Nat.zero_le _
  | some x =>
    show (endT x).length ≤ 2
    unfold endT; split
    · decide
    · split <;> decide
theorem map_step {f : Int → List Nat} {l : List Int} {ss : List Str} {z : Str} {j : Nat} (h : ss.map tl = (l.take j).map f) (hj : j < l.length) (e : tl z = f (l.getD j 0)) : (ss ++ [z]).map tl = (l.take (j + 1)).map f := by
  rw [take_snoc (d := 0) hj, List.map_append, List.map_append, h]; simp [e]
def wishF (x : Int) : Int := x % 2 + x / 2 % 4
section
variable {w : World} {mean : ExcName → Option Value} {mg mb : Str → Option Value} {dp un : Nat} {gd : Option (List Code)} {cn : Str} {cs : Scope} {a : Addr} {ccd : Value} {cl : List (Str × Addr)} {outer : List Env} {A₀ : Around} {base h₀ : Heap} {L : Addr} {m : Str → Option Value} {news : List (Addr × Obj)} {s : Shared} {Q : Flow → Shared → Prop} {E : Value → Shared → Prop}
set_option maxRecDepth 100000
set_option maxHeartbeats 8000000

theorem seg_h2 {D : Addr} {dv : List Value} {n : Nat} {ds : List Int} {oM oE : Obj} (B : Below A₀ base outer h₀) (F : Fr h₀ L s.heap m) (X : (Mine.hd.heap_39 w.params).In h₀) (N : News h₀ L s.heap [(D, listOf dv.toArray n), (L + 1 + 1, oM), (L + 1, oE)]) (T : Top Mine.hd.view_39 looseL mean mg mb h₀) (hd : dp + 40 < recursionLimit) (hE : PassesOwn (model Challenge.rw_sc0061_01.row.prog w) (ktrTop dp un gd (Str.ofString "law") lawScope L a ccd [(Str.ofString "mails", L + 1 + 1), (Str.ofString "ends", L + 1)] outer) (envX (Str.ofString "law") lawScope L a ccd [(Str.ofString "mails", L + 1 + 1), (Str.ofString "ends", L + 1)]) E) (vd : m (Str.ofString "drawn") = some (.ref D))
    (hI : IntsAre dv ds) (h7 : ds.length = 7) (hp : ∀ d ∈ ds, 0 ≤ d) (hM : oM.data = .cell none) (hE' : oE.data = .cell none) (hDL : @LT.lt Nat _ (L + 1 + 1) D)
    (hQ : ∀ h' tk m' S wv ev es mv ms c WD M EA W oM' oE' k1 k2 k3 k4 t1 t2 t3, Fr h₀ L h' m' → m' (Str.ofString "wishes") = some (.ref W) → m' (Str.ofString "turns") = some (.int (ds.getD 5 0) t1) → m' (Str.ofString "start") = some (.int (ds.getD 6 0 % 8) t2) → m' (Str.ofString "part") = some (.int (ds.getD 6 0 / 8 % 4 + 1) t3) →
      m' (Str.ofString "words") = some (.ref WD) → m' (Str.ofString "shelf") = some (.ref S) → News h₀ L h' ((S, listOf (List.toArray []) 0) :: (WD, listOf (List.toArray (c.map fun p => Value.ref p.1).reverse) k1) :: (c ++ [(M, listOf (List.toArray mv) k2), (EA, listOf (List.toArray ev) k3), (W, listOf (List.toArray wv) k4), (L + 1 + 1, oM'), (L + 1, oE')])) →
      (((S, listOf (List.toArray []) 0) :: (WD, listOf (List.toArray (c.map fun p => Value.ref p.1).reverse) k1) :: (c ++ [(M, listOf (List.toArray mv) k2), (EA, listOf (List.toArray ev) k3), (W, listOf (List.toArray wv) k4), (L + 1 + 1, oM'), (L + 1, oE')])).map (·.1)).Nodup →
      oM'.data = .cell (some (.ref M)) → oE'.data = .cell (some (.ref EA)) → IntsAre wv ((ds.take 5).map wishF) → StrsAre ev es → es.map tl = (ds.take 5).map endT → StrsAre mv ms → ms.map tl = (List.range 5).map (fun k => 46 :: (97 + k) :: ((ds.take 5).map endT).getD k []) → c.length = 5 → (∀ p ∈ c, RowOk p) → wpAny (model Challenge.rw_sc0061_01.row.prog w) (ktrTop dp un gd (Str.ofString "law") lawScope L a ccd [(Str.ofString "mails", L + 1 + 1), (Str.ofString "ends", L + 1)] outer) (execs (lawBody.drop 10) (envX (Str.ofString "law") lawScope L a ccd [(Str.ofString "mails", L + 1 + 1), (Str.ofString "ends", L + 1)])) Q E { s with heap := h', toks := tk })
    : wpAny (model Challenge.rw_sc0061_01.row.prog w) (ktrTop dp un gd (Str.ofString "law") lawScope L a ccd [(Str.ofString "mails", L + 1 + 1), (Str.ofString "ends", L + 1)] outer) (execs (lawBody.drop 2) (envX (Str.ofString "law") lawScope L a ccd [(Str.ofString "mails", L + 1 + 1), (Str.ofString "ends", L + 1)])) Q E s := by
  have F1 := kst_self F (ps := [(Str.ofString "drawn", .ref D)]) (all_cons vd all_nil)
  clear F
  revert X
  k_fill
  intro X
  conv in (execs _ _) => (arg 1; whnf)
  conv in (envX _ _ _ _ _ _) => (arg 2; whnf)
  walk_at "go"
  refine Halt.out ?_
  dsimp only
  rename Fr _ _ _ _ => F2
  rename News _ _ _ _ => N2
  rename IntsAre _ (List.take 5 ds) => hI2
  have h5 : (ds.take 5).length = 5 := by rw [List.length_take, h7]; rfl
  have hl2 := hI2.length
  refine compLA_st (σ := Unit) (Led := fun _ => _) (P := fun j ys _ => IntsAre ys (((ds.take 5).take j).map wishF)) () rfl F2 N2 (fun _ => .head _) (by lia) .nil ?t1 ?f1
  case t1 =>
    rintro g j v ys c9 I9 oI9 C9 oC9 D9 m9 h9 tk9 E9 Qe hj hv hI9 hNs hx F9 N9 hoff9 hne9 hQe
    obtain ⟨t9, rfl⟩ := IntsAre.int_at hI2 j v hv
    walk_at "go"
    exact hQe _ () _ _ (ints_step (f := wishF) hI9 (by lia)) (by assumption) (by assumption) hoff9
  case f1 =>
  rintro wv c9 W h9 tk9 hI9 F9 N9 hoff9
  dsimp only at hI9 N9 hoff9 ⊢
  rw [List.take_of_length_le (by lia)] at hI9
  replace N9 := Mine.News.sub (news := [(W, LCg.lst wv), (D, listOf dv.toArray n), (L + 1 + 1, oM), (L + 1, oE)]) N9 (by walk_at "sub")
  (try clear F2); (try clear N2); (try clear N); (try clear hI2)
  walk_at "go"
  refine Halt.out ?_
  (try dsimp only)
  rename Fr _ _ _ _ => F2
  rename News _ _ _ _ => N2
  rename IntsAre _ (List.take 5 ds) => hI2
  have hl2 := hI2.length
  refine compL_st (σ := Unit) (Led := fun _ => _) (P := fun j ys _ => ∃ ss, StrsAre ys ss ∧ ss.map tl = ((ds.take 5).take j).map endT) () rfl F2 N2 (fun _ => .head _) (by lia) ⟨[], .nil, rfl⟩ ?t2 ?f2
  case t2 =>
    rintro g j v ys c9 I9 oI9 C9 oC9 D9 m9 h9 tk9 E9 Qe hj hv ⟨ss, hS9, hT9⟩ hNs hx F9 N9 hoff9 hne9 hQe
    obtain ⟨t9, rfl⟩ := IntsAre.int_at hI2 j v hv
    walk_at "go"
    · have e9 : (List.take 5 ds).getD j 0 / 8 % 3 = 0 := by assumption
      rename News _ _ _ _ => N8
      exact hQe _ () _ _ ⟨ss ++ [_], strs_snoc hS9, map_step hT9 (by lia) (by unfold endT; rw [if_pos e9]; rfl)⟩ (by assumption) (Mine.News.sub N8 fun _ hp => .tail _ hp) hoff9
    · have e9 : (List.take 5 ds).getD j 0 / 8 % 3 = 1 := by assumption
      rename News _ _ _ _ => N8
      exact hQe _ () _ _ ⟨ss ++ [_], strs_snoc hS9, map_step hT9 (by lia) (by unfold endT; rw [if_neg (by lia), if_pos e9]; rfl)⟩ (by assumption) (Mine.News.sub N8 fun _ hp => .tail _ hp) hoff9
    · have e9 : (List.take 5 ds).getD j 0 / 8 % 3 = 2 := by assumption
      rename News _ _ _ _ => N8
      exact hQe _ () _ _ ⟨ss ++ [_], strs_snoc hS9, map_step hT9 (by lia) (by unfold endT; rw [if_neg (by lia), if_neg (by lia)]; rfl)⟩ (by assumption) (Mine.News.sub N8 fun _ hp => .tail _ hp) hoff9
  case f2 =>
  rintro ev c9 EA h9 tk9 ⟨es, hS9, hT9⟩ F9 N9 hoff9
  dsimp only at N9 hoff9 ⊢
  rw [List.take_of_length_le (by lia)] at hT9
  replace N9 := Mine.News.sub (news := [(EA, LCg.lst ev), (W, LCg.lst wv), (D, listOf dv.toArray n), (L + 1 + 1, oM), (L + 1, oE)]) N9 (by walk_at "sub")
  (try clear F2); (try clear N2); (try clear hI2)
  walk_at "go"
  refine Halt.out ?_
  (try dsimp only)
  rename IsRange _ _ _ _ _ _ _ _ => R2
  rename Fr _ _ _ _ => F2
  rename News _ _ _ _ => N2
  rename Obj => oE2
  rename _ = Data.cell (some (Value.ref EA)) => dE2
  have hle : ev.length = es.length := hS9.length
  have hle5 : es.length = 5 := by have := congrArg List.length hT9; rw [List.length_map, List.length_map, h5] at this; exact this
  refine compR_st (n := 5) (σ := Unit) (Led := fun _ => _) (P := fun j ys _ => ∃ ss, StrsAre ys ss ∧ ss.map tl = (List.range j).map (fun k => 46 :: (97 + k) :: ((ds.take 5).map endT).getD k [])) () rfl F2 N2 R2 rfl (by lia) ⟨[], .nil, rfl⟩ ?t3 ?f3
  case t3 =>
    rintro g j v ys c9 I9 oI9 C9 oC9 D9 m9 h9 tk9 E9 Qe hj ⟨t9, rfl⟩ ⟨ss, hS8, hT8⟩ hNs hx F9 N9 hoff9 hne9 hQe
    obtain ⟨hA1, hA2⟩ := tl_low j hj
    have hd1 : (Str.ofString ".").length = 1 := by decide +kernel
    have hG : tl (es.getD (j : Int).toNat (Str.ofString "")) = ((ds.take 5).map endT).getD j [] := by rw [Int.toNat_natCast, tl_getD _ (by lia), hT9]
    have hG2 : (es.getD (j : Int).toNat (Str.ofString "")).length ≤ 2 := by rw [← tl_len, hG]; exact endT_len _ j
    walk_at "go"
    refine hQe _ () _ _ ⟨ss ++ [_], strs_snoc hS8, ?_⟩ (by assumption) (by assumption) hoff9
    rw [List.map_append, hT8, List.range_succ, List.map_append, List.map_singleton, List.map_singleton, tl_app, tl_app, hA1, hG]
    rfl
  case f3 =>
  rintro mv c9 M h9 tk9 ⟨ms, hS8, hT8⟩ F9 N9 hoff9
  dsimp only at N9 hoff9 ⊢
  (try clear F2); (try clear N2); (try clear R2)
  walk_at "go"
  refine Halt.out ?_
  (try dsimp only)
  rename IsRange _ _ _ _ _ _ _ _ => R3
  rename Fr _ _ _ _ => F3
  rename News _ _ _ _ => N3
  rename Obj => oM2
  rename _ = Data.cell (some (Value.ref M)) => dM2
  refine compRA_st (n := 5) (σ := List (Addr × Obj)) (Led := fun c => c ++ [(M, LCg.lst mv), (EA, LCg.lst ev), (W, LCg.lst wv), (D, listOf dv.toArray n), (L + 1 + 1, oM2), (L + 1, oE2)])
    (P := fun j ys c => c.length = j ∧ ys = (c.map fun p => Value.ref p.1).reverse ∧ (∀ p ∈ c, RowOk p) ∧ ((c ++ [(M, LCg.lst mv), (EA, LCg.lst ev), (W, LCg.lst wv), (D, listOf dv.toArray n), (L + 1 + 1, oM2), (L + 1, oE2)]).map (·.1)).Nodup) [] rfl F3 N3 R3 rfl (by lia) ⟨rfl, rfl, (fun _ h => nomatch h), ?nd⟩ ?t4 ?f4
  case nd => rw [List.nil_append]; walk_at "nd"
  case t4 =>
    rintro g j v ys c I9 oI9 C9 oC9 D9 m9 h9 tk9 E9 Qe hj ⟨t9, rfl⟩ ⟨p1, p2, p3, p4⟩ hNs hx F9 N9 hoff9 hne9 hQe
    dsimp only at N9 hoff9 hQe
    walk_at "go"
    rename Addr => l8
    rename News _ _ _ _ => N8
    rename _ ∧ _ ∧ _ ∧ AllLt _ _ => l9
    have hlt8 : ∀ p ∈ c ++ [(M, LCg.lst mv), (EA, LCg.lst ev), (W, LCg.lst wv), (D, listOf dv.toArray n), (L + 1 + 1, oM2), (L + 1, oE2)], p.1 < l8 := ktn_ltOf l9.2.2.2
    refine hQe (.ref l8) ((l8, _) :: c) _ _ ⟨by rw [List.length_cons, p1], by rw [p2, List.map_cons, List.reverse_cons], ?_, ?_⟩ (by assumption) (row_turn N8) ⟨⟨Nat.ne_of_gt l9.1, Nat.ne_of_gt l9.2.1, Nat.ne_of_gt l9.2.2.1⟩, hoff9⟩
    · intro p hp
      rcases List.mem_cons.mp hp with rfl | hp
      · exact ⟨[_, _, _, _, _], rfl, _, .cons _ _ (.cons _ _ (.cons _ _ (.cons _ _ (.cons _ _ .nil)))), by decide +kernel⟩
      · exact p3 p hp
    · exact nd_cons (fun p hp => Nat.ne_of_lt (hlt8 p hp)) p4
  case f4 =>
  rintro rv c WD h9 tk9 ⟨p1, rfl, p3, p4⟩ F9 N9 hoff9
  dsimp only at N9 hoff9 ⊢
  (try clear F3); (try clear N3); (try clear R3)
  walk_at "go"
  refine Halt.out ?_
  rename Fr _ _ _ _ => F8
  rename News _ _ _ _ => N8
  rename _ ∧ AllLt _ (_ ++ _) => l9
  have hlt8 := ktn_ltOf l9.2
  have hsub : ∀ p ∈ c ++ [(M, LCg.lst mv), (EA, LCg.lst ev), (W, LCg.lst wv), (L + 1 + 1, oM2), (L + 1, oE2)], p ∈ c ++ [(M, LCg.lst mv), (EA, LCg.lst ev), (W, LCg.lst wv), (D, listOf dv.toArray n), (L + 1 + 1, oM2), (L + 1, oE2)] := (by walk_at "sub")
  refine hQ _ _ _ _ wv ev es mv ms c WD M EA W oM2 oE2 (c.map fun p => Value.ref p.1).reverse.length mv.length ev.length wv.length _ _ _ F8 rfl rfl rfl rfl rfl rfl (Mine.News.sub N8 fun p hp => ?_) ?_ dM2 dE2 hI9 (by assumption) (by assumption) hS8 hT8 p1 p3
  · simp only [List.mem_cons] at hp ⊢
    rcases hp with h | h | h
    · exact .inl h
    · exact .inr (.inl h)
    · exact .inr (.inr (hsub p h))
  · refine nd_cons (off_cons (Nat.ne_of_lt l9.1) fun p hp => Nat.ne_of_lt (hlt8 p (hsub p hp))) (nd_cons (fun p hp => hoff9 p (hsub p hp)) ?_)
    refine p4.sublist (List.Sublist.map _ (List.Sublist.append_left ?_ c))
    exact .cons_cons _ (.cons_cons _ (.cons_cons _ (.cons _ (List.Sublist.refl _))))
end
end
section
open PySem PySem.W PyProof.Rows PySem.Flt
local macro_rules | `(tactic| walk_at "storeName ref") => `(tactic| (k_here; k_dflt (refine' storeX_C ?F ?N ?c ?U ?d ?_ ?a ?b; (case a => rfl); (case b => rfl); (case F => k_asm); (case N => k_asm); (case c => rfl); (case U => walk_at "updF"); (case d => k_asm); k_whole); intro h' o' F' N' d'; (try dsimp only at N'); (try k_sweep); (try dsimp only)))
local macro_rules | `(tactic| walk_at "binaryOp Div int int") => `(tactic| (k_here; k_dflt (refine' g_div (by lia) (by lia) (by lia) (by exact Nat.succ_ne_zero _) ?_); walk_at "ie"))
local macro_rules | `(tactic| walk_at "subscriptTail Name Name ref int") => `(tactic| ((try dsimp only); k_here; k_dflt (refine' g_item_nats (by k_asm) (by (walk_at "mem")) (by with_reducible assumption) (by lia) (by lia) ?_ (by with_unfolding_all rfl)); walk_at "ie"))
local macro_rules | `(tactic| walk_at "call ref") => `(tactic| (k_here; (with_reducible show wpAny _ _ (call (Value.ref 61) _ _) _ _ _); refine Halt.mk ?_))
local macro_rules | `(tactic| walk_at "call ref") => `(tactic| (k_here; (with_reducible show wpAny _ _ (call (Value.ref 52) _ _) _ _ _); (with_reducible rename Fr _ _ _ _ => kF); k_dflt (refine' c_rgb (by assumption) kF (by assumption) (by k_asm) (by assumption) (by rfl) (by ktr_room) (by with_reducible assumption) (by with_reducible assumption) (by with_reducible assumption) (by with_reducible assumption) (by with_reducible assumption) ?_); walk_at "ie"))
local macro_rules | `(tactic| walk_at "execs cons") => `(tactic| ((with_reducible show wpAny _ _ (execs (Stmt.Assign [Expr.Name (Str.ofString "told") _] _ _ :: _) _) _ _ _); refine Halt.mk ?_))
section
variable {w : World} {mean : ExcName → Option Value} {mg mb : Str → Option Value} {dp un : Nat} {gd : Option (List Code)} {cn : Str} {cs : Scope} {a : Addr} {ccd : Value} {cl : List (Str × Addr)} {outer : List Env} {A₀ : Around} {base h₀ : Heap} {L : Addr} {m : Str → Option Value} {news : List (Addr × Obj)} {s : Shared} {Q : Flow → Shared → Prop} {E : Value → Shared → Prop}
set_option maxRecDepth 100000
set_option maxHeartbeats 8000000

theorem seg_s {S W WD : Addr} {wv : List Value} {k4 st pa : Nat} {tn : Int} {t1 t2 t3 : Tok} {ws : List Nat} (B : Below A₀ base outer h₀) (F : Fr h₀ L s.heap m) (X : (Mine.hd.heap_39 w.params).In h₀) (N : News h₀ L s.heap ((S, listOf (List.toArray []) 0) :: news)) (T : Top Mine.hd.view_39 looseL mean mg mb h₀) (hd : dp + 40 < recursionLimit) (hE : PassesOwn (model Challenge.rw_sc0061_01.row.prog w) (ktrTop dp un gd (Str.ofString "law") lawScope L a ccd [(Str.ofString "mails", L + 1 + 1), (Str.ofString "ends", L + 1)] outer) (envX (Str.ofString "law") lawScope L a ccd [(Str.ofString "mails", L + 1 + 1), (Str.ofString "ends", L + 1)]) E) (vs1 : m (Str.ofString "wishes") = some (.ref W)) (vs2 : m (Str.ofString "turns") = some (.int tn t1)) (vs3 : m (Str.ofString "start") = some (.int (st : Int) t2)) (vs4 : m (Str.ofString "part") = some (.int ((pa + 1 : Nat) : Int) t3)) (vs5 : m (Str.ofString "words") = some (.ref WD)) (vs6 : m (Str.ofString "shelf") = some (.ref S))
    (hW : (W, listOf (List.toArray wv) k4) ∈ news) (hI : IntsAre wv (ws.map fun (x : Nat) => (x : Int))) (h5 : ws.length = 5) (hw : ∀ x ∈ ws, x ≤ 4) (hnd : (S :: news.map (·.1)).Nodup) (hst : st < 8) (hpa : pa < 4)
    (hQ : ∀ h' tk m' vs n lp, Fr h₀ L h' m' → m' (Str.ofString "wishes") = some (.ref W) → m' (Str.ofString "turns") = some (.int tn t1) → m' (Str.ofString "start") = some (.int (st : Int) t2) → m' (Str.ofString "part") = some (.int ((pa + 1 : Nat) : Int) t3) →
      m' (Str.ofString "words") = some (.ref WD) → m' (Str.ofString "shelf") = some (.ref S) → News h₀ L h' ((S, listOf (List.toArray vs) n) :: (lp ++ news)) → (S :: (lp ++ news).map (·.1)).Nodup → Shelf lp vs (shelfP ws) st (pa + 1) → wpAny (model Challenge.rw_sc0061_01.row.prog w) (ktrTop dp un gd (Str.ofString "law") lawScope L a ccd [(Str.ofString "mails", L + 1 + 1), (Str.ofString "ends", L + 1)] outer) (execs (lawBody.drop 11) (envX (Str.ofString "law") lawScope L a ccd [(Str.ofString "mails", L + 1 + 1), (Str.ofString "ends", L + 1)])) Q E { s with heap := h', toks := tk })
    : wpAny (model Challenge.rw_sc0061_01.row.prog w) (ktrTop dp un gd (Str.ofString "law") lawScope L a ccd [(Str.ofString "mails", L + 1 + 1), (Str.ofString "ends", L + 1)] outer) (execs (lawBody.drop 10) (envX (Str.ofString "law") lawScope L a ccd [(Str.ofString "mails", L + 1 + 1), (Str.ofString "ends", L + 1)])) Q E s := by
  have F1 := kst_self F (ps := [(Str.ofString "wishes", .ref W), (Str.ofString "turns", .int tn t1), (Str.ofString "start", .int (st : Int) t2), (Str.ofString "part", .int ((pa + 1 : Nat) : Int) t3), (Str.ofString "words", .ref WD), (Str.ofString "shelf", .ref S)]) (all_cons vs1 (all_cons vs2 (all_cons vs3 (all_cons vs4 (all_cons vs5 (all_cons vs6 all_nil))))))
  clear F
  revert X
  k_fill
  intro X
  conv in (execs _ _) => (arg 1; whnf)
  conv in (envX _ _ _ _ _ _) => (arg 2; whnf)
  walk_at "go"
  refine Halt.out ?_
  rename IsRange _ _ _ _ _ _ _ _ => R2
  rename Fr _ _ _ _ => F2
  rename News _ _ _ _ => N2
  refine iter_up_st (n := 5) (σ := List Value × Nat × List (Nat × Nat) × List (Addr × Obj)) (fun _ => [(Str.ofString "wishes", .ref W), (Str.ofString "turns", .int tn t1), (Str.ofString "start", .int (st : Int) t2), (Str.ofString "part", .int ((pa + 1 : Nat) : Int) t3), (Str.ofString "words", .ref WD), (Str.ofString "shelf", .ref S)])
    (fun c => (S, listOf (List.toArray c.1) c.2.1) :: (c.2.2.2 ++ news)) (fun i c => Shelf c.2.2.2 c.1 c.2.2.1 st (pa + 1) ∧ c.2.2.1 = shelfP (ws.take i) ∧ (S :: (c.2.2.2 ++ news).map (·.1)).Nodup) ([], 0, [], []) rfl R2 rfl (by lia) F2 N2 (fun _ h => h) (all_cons rfl (all_cons rfl (all_cons rfl (all_cons rfl (all_cons rfl (all_cons rfl all_nil)))))) ⟨Shelf.nil, rfl, hnd⟩ ?turn ?done
  case done =>
    (try clear F2); (try clear N2); (try clear R2)
    rintro ⟨vs, nS, sh, lp⟩ u h tk ⟨p1, p2, p3⟩ F3 N3
    dsimp only at p1 p2 p3 F3 N3 ⊢
    rw [List.take_of_length_le (by lia)] at p2
    subst p2
    walk_at "go"
    refine Halt.out ?_
    exact hQ _ _ _ vs nS lp F3 rfl rfl rfl rfl rfl rfl N3 p3 p1
  case turn =>
    (try clear F2); (try clear N2); (try clear R2)
    rintro I i t ⟨vs, nS, sh, lp⟩ u h tk own Qn hlt hi ⟨p1, p2, p3⟩ hoff ⟨oI, hI9⟩ hown F3 N3 hQn
    dsimp only at p1 p2 p3 hoff F3 N3 hQn
    simp only [List.cons_append] at N3
    have hoffD : ∀ p ∈ lp ++ news ++ own, p.1 ≠ S := fun p hp => by
      rcases List.mem_append.mp hp with q | q
      · exact nd_off p3 p q
      · rw [hown p q]; exact fun e => hoff _ (.head _) e.symm
    have hWm : (W, listOf (List.toArray wv) k4) ∈ lp ++ news ++ own := List.mem_append_left _ (List.mem_append_right _ hW)
    have hwi : ws.getD i 0 ≤ 4 := by
      rw [List.getD_eq_getElem?_getD, List.getElem?_eq_getElem (by lia)]
      exact hw _ (List.getElem_mem _)
    have hH : divF (((st : Int) + (i : Int)) % 8) 8 = hF ((st + i) % 8) := by unfold hF; congr 1
    obtain ⟨z1, z2, z3⟩ := hue_oks (k := (st + i) % 8) (Nat.mod_lt _ (by decide))
    rw [← hH] at z1 z2 z3
    have z0 : ¬ (Float64.cmp (divF ((pa + 1 : Nat) : Int) 4) 0 == some Ordering.eq) = true := share_ok pa hpa
    (try dsimp only); (try k_fold)
    walk_at "go"
    refine Halt.out ?_
    rename_i D4 _ _ r4 g4 b4 ta tb tc n1 n2 n3 e4 F4 N4 l4
    have hD4S : S < D4 := l4 _ (.head _)
    have e5 : col ((st + i) % 8) (pa + 1) (ws.getD i 0) = (r4, g4, b4) := by unfold col; rw [← hH]; exact e4
    have hlz : vs.length ≤ 100 := by
      have h9 : sh.length = i := by rw [p2, shelf_len, List.length_take]; lia
      have := p1.1
      lia
    have hW5 : ws.getD i 0 < 5 := by lia
    have hLI : LampIs ((D4, tupO [.float r4 ta, .float g4 tb, .float b4 tc]) :: lp) (.ref D4) (col ((st + i) % 8) (pa + 1) (ws.getD i 0)) := by
      rw [e5]; exact ⟨D4, _, _, _, ⟨n1, n2, n3⟩, rfl, .head _⟩
    have p1' := p1.mono (news' := (D4, tupO [.float r4 ta, .float g4 tb, .float b4 tc]) :: lp) fun _ h => .tail _ h
    have hLI2 := hLI.mono (news' := (D4, tupO [.float r4 ta, .float g4 tb, .float b4 tc]) :: (S, listOf (List.toArray vs) nS) :: (lp ++ news ++ own)) fun p hp => by
      rcases List.mem_cons.mp hp with rfl | hp
      · exact .head _
      · exact .tail _ (.tail _ (List.mem_append_left _ (List.mem_append_left _ hp)))
    have p1'' := p1'.mono (news' := (D4, tupO [.float r4 ta, .float g4 tb, .float b4 tc]) :: (S, listOf (List.toArray vs) nS) :: (lp ++ news ++ own)) fun p hp => by
      rcases List.mem_cons.mp hp with rfl | hp
      · exact .head _
      · exact .tail _ (.tail _ (List.mem_append_left _ (List.mem_append_left _ hp)))
    have hU : Upd S (listOf (List.toArray vs) nS) (listOf (List.toArray (insAt vs (((sh.map fun p => lF (pa + 1) p.2)).findIdx (ltF (lF (pa + 1) (ws.getD i 0)))) (.ref D4))) (nS + 1)) ((D4, tupO [.float r4 ta, .float g4 tb, .float b4 tc]) :: (S, listOf (List.toArray vs) nS) :: (lp ++ news ++ own)) _ := .tail (Nat.ne_of_gt hD4S) (.head hoffD)
    refine c_ins (by assumption) F4 (by assumption) N4 (by assumption) rfl (by ktr_room) hlz (lampAt_of hLI2 (Nat.mod_lt _ (by decide)) hpa hW5) (p1''.lamps hpa) (mono_of p1.2.1 hpa hW5 (by rw [p2]; exact shelf_sort)) hU ?_
    intro h5' tk5 F5 N5
    rw [pos_of p1.2.1 hpa hW5] at N5
    walk_at "go"
    refine Halt.out ?_
    show Qn _
    rename Fr _ _ _ _ => F6
    refine hQn (insAt vs (posP sh (ws.getD i 0)) (.ref D4), nS + 1, insP sh (i, ws.getD i 0), (D4, tupO [.float r4 ta, .float g4 tb, .float b4 tc]) :: lp) _ _ _ _ ⟨p1'.ins hLI hi hW5, by rw [shelf_succ (by lia), ← p2], nd_new p3 hD4S fun p hp => l4 p (.tail _ (List.mem_append_left _ hp))⟩ (fun p hp => ?_) F6 (all_cons rfl (all_cons rfl (all_cons rfl (all_cons rfl (all_cons rfl (all_cons rfl all_nil)))))) N5 (fun p hp => ?_)
    · rcases List.mem_cons.mp hp with rfl | hp
      · exact hoff (S, listOf (List.toArray vs) nS) (.head _)
      · rcases List.mem_cons.mp hp with rfl | hp
        · exact Nat.ne_of_gt (l4 _ (.tail _ (List.mem_append_right _ hI9)))
        · exact hoff p (.tail _ hp)
    · simp only [List.cons_append, List.mem_cons] at hp ⊢
      rcases hp with h | h | h
      · exact .inr (.inl h)
      · exact .inl h
      · exact .inr (.inr h)
end
end
section
open PySem PySem.W PyProof.Rows PySem.Flt
local macro_rules | `(tactic| walk_at "binaryOp Div int int") => `(tactic| (k_here; k_dflt (refine' g_div (by lia) (by lia) (by lia) (by exact Nat.succ_ne_zero _) ?_); walk_at "ie"))
local macro_rules | `(tactic| walk_at "setItem ref int") => `(tactic| ((try dsimp only); k_here; k_dflt (refine' g_setnat (by k_asm) (by k_asm) (by walk_at "upd") (by with_reducible assumption) (by lia) (by lia) ?_); intro h' F' N' hI'; (try dsimp only at N'); (try k_sweep); (try dsimp only)))
local macro_rules | `(tactic| walk_at "compareOp NotEq ref ref") => `(tactic| (k_here; (with_reducible rename Fr _ _ _ _ => kF); k_dflt (refine' g_neq3 kF (by assumption) (by k_asm) (by with_reducible assumption) (by (walk_at "mem")) (by (walk_at "mem")) (by with_reducible assumption) (by exact rfl) (by exact rfl) (by with_reducible assumption) (by with_reducible assumption) (by with_reducible assumption) (by with_reducible assumption) (by with_reducible assumption) (by with_reducible assumption) (by with_reducible assumption) ?_)))
local macro_rules | `(tactic| walk_at "binaryOp Mult float int") => `(tactic| (k_here; k_dflt (refine' g_mulfi (by rfl) ?_); walk_at "ie"))
local macro_rules | `(tactic| walk_at "subscriptTail Name Constant ref int") => `(tactic| ((try dsimp only); k_here; k_dflt (refine' g_titem (by k_asm) (by (walk_at "mem")) (by decide) (by decide) (by exact rfl) (by exact rfl) ?_ (by with_unfolding_all rfl)); (try dsimp only)))
local macro_rules | `(tactic| walk_at "call builtin:list.pop") => `(tactic| (k_here; k_dflt (refine' g_pop (by k_asm) (by k_asm) (by with_reducible assumption) (by with_reducible assumption) (by with_reducible assumption) (by walk_at "upd") ?_); intro h' F' N'; (try dsimp only at N'); (try k_sweep); (try dsimp only)))
local macro_rules | `(tactic| walk_at "call ref") => `(tactic| (k_here; (with_reducible show wpAny _ _ (call (Value.ref 45) _ _) _ _ _); (with_reducible rename Fr _ _ _ _ => kF); k_dflt (refine' c_hsvL (by assumption) kF (by assumption) (by k_asm) (by assumption) (by rfl) (by ktr_room) (by with_reducible assumption) (by with_reducible assumption) (by with_reducible assumption) (by with_reducible assumption) (by with_reducible assumption) ?_); walk_at "ie"))
local macro_rules | `(tactic| walk_at "call type:int") => `(tactic| (k_here; k_dflt (first | (refine' g_inthue (by rfl) (by with_reducible assumption) ?_) | (refine' g_intval (by rfl) (by with_reducible assumption) ?_)); walk_at "ie"))
local macro_rules | `(tactic| walk_at "execs cons") => `(tactic| ((with_reducible show wpAny _ _ (execs (Stmt.Assign [Expr.Name (Str.ofString "lit") _] _ _ :: _) _) _ _ _); refine Halt.mk ?_))
local macro_rules | `(tactic| walk_at "execs cons") => `(tactic| ((with_reducible show wpAny _ _ (execs (Stmt.If _ _ _ _ :: _) _) _ _ _); refine Halt.mk ?_))
section
variable {w : World} {mean : ExcName → Option Value} {mg mb : Str → Option Value} {dp un : Nat} {gd : Option (List Code)} {cn : Str} {cs : Scope} {a : Addr} {ccd : Value} {cl : List (Str × Addr)} {outer : List Env} {A₀ : Around} {base h₀ : Heap} {L : Addr} {m : Str → Option Value} {news : List (Addr × Obj)} {s : Shared} {Q : Flow → Shared → Prop} {E : Value → Shared → Prop}
set_option maxRecDepth 100000
set_option maxHeartbeats 8000000

theorem seg_t1 {S W WD TT : Addr} {vs tv : List Value} {n nT st pa tn sz i : Nat} {t1 t2 t3 t4 : Tok} {sh : List (Nat × Nat)} {tw : List Nat} (B : Below A₀ base outer h₀) (F : Fr h₀ L s.heap m) (X : (Mine.hd.heap_39 w.params).In h₀) (N : News h₀ L s.heap ((S, listOf (List.toArray vs) n) :: (TT, listOf (List.toArray tv) nT) :: news)) (T : Top Mine.hd.view_39 looseL mean mg mb h₀) (hd : dp + 40 < recursionLimit) (hE : PassesOwn (model Challenge.rw_sc0061_01.row.prog w) (ktrTop dp un gd (Str.ofString "law") lawScope L a ccd [(Str.ofString "mails", L + 1 + 1), (Str.ofString "ends", L + 1)] outer) (envX (Str.ofString "law") lawScope L a ccd [(Str.ofString "mails", L + 1 + 1), (Str.ofString "ends", L + 1)]) E) (vs1 : m (Str.ofString "wishes") = some (.ref W)) (vs2 : m (Str.ofString "turns") = some (.int (tn : Int) t1)) (vs3 : m (Str.ofString "start") = some (.int (st : Int) t2)) (vs4 : m (Str.ofString "part") = some (.int ((pa + 1 : Nat) : Int) t3)) (vs5 : m (Str.ofString "words") = some (.ref WD)) (vs6 : m (Str.ofString "shelf") = some (.ref S)) (vs7 : m (Str.ofString "told") = some (.ref TT)) (vs8 : m (Str.ofString "size") = some (.int (sz : Int) t4))
    (hS : Shelf news vs sh st (pa + 1)) (hsz : sh.length = sz) (h1 : 1 ≤ sz) (h5 : sz ≤ 5) (hi : i = tn % sz) (hT : IntsAre tv (tw.map fun (x : Nat) => (x : Int))) (hT5 : tw.length = 5) (hnd : S ≠ TT ∧ (∀ p ∈ news, p.1 ≠ S) ∧ ∀ p ∈ news, p.1 ≠ TT) (hst : st < 8) (hpa : pa < 4) (hun : un < cLine)
    (hQ : ∀ h' tk m' nm wi tv' t5 t6 t7, sh[i]? = some (nm, wi) → Fr h₀ L h' m' → m' (Str.ofString "wishes") = some (.ref W) → m' (Str.ofString "turns") = some (.int ((tn / sz : Nat) : Int) t7) → m' (Str.ofString "start") = some (.int (st : Int) t2) → m' (Str.ofString "part") = some (.int ((pa + 1 : Nat) : Int) t3) → m' (Str.ofString "words") = some (.ref WD) → m' (Str.ofString "shelf") = some (.ref S) → m' (Str.ofString "told") = some (.ref TT) → m' (Str.ofString "size") = some (.int (sz : Int) t4) → m' (Str.ofString "name") = some (.int (nm : Int) t5) → m' (Str.ofString "wish") = some (.int (wi : Int) t6) → News h₀ L h' ((S, listOf (List.toArray (vs.eraseIdx i)) (n + 1)) :: (TT, listOf (List.toArray tv') nT) :: news) → IntsAre tv' ((tw.set nm wi).map fun (x : Nat) => (x : Int)) → wpAny (model Challenge.rw_sc0061_01.row.prog w) (ktrTop dp un gd (Str.ofString "law") lawScope L a ccd [(Str.ofString "mails", L + 1 + 1), (Str.ofString "ends", L + 1)] outer) (execs (turnBody.drop 7) (envX (Str.ofString "law") lawScope L a ccd [(Str.ofString "mails", L + 1 + 1), (Str.ofString "ends", L + 1)])) Q E { s with heap := h', toks := tk })
    : wpAny (model Challenge.rw_sc0061_01.row.prog w) (ktrTop dp un gd (Str.ofString "law") lawScope L a ccd [(Str.ofString "mails", L + 1 + 1), (Str.ofString "ends", L + 1)] outer) (execs (turnBody.drop 0) (envX (Str.ofString "law") lawScope L a ccd [(Str.ofString "mails", L + 1 + 1), (Str.ofString "ends", L + 1)])) Q E s := by
  have F1 := kst_self F (ps := [(Str.ofString "wishes", .ref W), (Str.ofString "turns", .int (tn : Int) t1), (Str.ofString "start", .int (st : Int) t2), (Str.ofString "part", .int ((pa + 1 : Nat) : Int) t3), (Str.ofString "words", .ref WD), (Str.ofString "shelf", .ref S), (Str.ofString "told", .ref TT), (Str.ofString "size", .int (sz : Int) t4)]) (all_cons vs1 (all_cons vs2 (all_cons vs3 (all_cons vs4 (all_cons vs5 (all_cons vs6 (all_cons vs7 (all_cons vs8 all_nil))))))))
  clear F
  obtain ⟨hn1, hn2, hn3⟩ := hnd
  have hiv : i < vs.length := by rw [hS.1, hsz, hi]; exact Nat.mod_lt _ h1
  have his : i < sh.length := by rw [hsz, hi]; exact Nat.mod_lt _ h1
  obtain ⟨xl, ta, tb, tc, hnz, hvx, hmx⟩ : LampIs news vs[i] (col ((st + sh[i].1) % 8) (pa + 1) sh[i].2) := hS.2.2 i _ _ (List.getElem?_eq_getElem hiv) (List.getElem?_eq_getElem his)
  have hvi : vs[i]? = some (.ref xl) := by rw [List.getElem?_eq_getElem hiv, hvx]
  have hb5 := hS.2.1 _ (List.getElem_mem his)
  obtain ⟨b1, b2⟩ := hb5
  have hsi : sh[i]? = some sh[i] := List.getElem?_eq_getElem his
  generalize sh[i] = nw at *
  obtain ⟨nm, wi⟩ := nw
  dsimp only at *
  have hk8 : (st + nm) % 8 < 8 := Nat.mod_lt _ (by decide)
  obtain ⟨⟨r8, g8, b8⟩, hcol⟩ : ∃ c, col ((st + nm) % 8) (pa + 1) wi = c := ⟨_, rfl⟩
  rw [hcol] at hmx
  dsimp only at hmx
  have hx : (tn : Int) % (sz : Int) = (i : Int) := by rw [hi]; rfl
  have hv100 : vs.length ≤ 100 := by rw [hS.1]; lia
  revert X
  k_fill
  intro X
  conv in (execs _ _) => (arg 1; whnf)
  conv in (envX _ _ _ _ _ _) => (arg 2; whnf)
  walk_at "go"
  refine Halt.out ?_
  rename Fr _ _ _ _ => F5
  rename News _ _ _ _ => N5
  have e1 : ((wi : Int) + 1) - 1 = (wi : Int) := by lia
  have e2 : ((((st + nm) % 8 : Nat) : Int) - (st : Int)) % 8 = (nm : Int) := by lia
  have e3 : (tn : Int) / (sz : Int) = ((tn / sz : Nat) : Int) := rfl
  rw [e1, e2, e3] at F5
  have hH : divF (((st : Int) + (nm : Int)) % 8) 8 = hF ((st + nm) % 8) := by unfold hF; congr 1
  have hun2 : (ktrTop dp un gd (Str.ofString "law") lawScope L a ccd [(Str.ofString "mails", L + 1 + 1), (Str.ofString "ends", L + 1)] outer).units < cLine := hun
  refine wpAny_execs_cons ?_
  walk_at "go"
  refine Halt.out ?_
  rename Fr _ _ _ _ => F6
  rename News _ _ _ _ => N6
  rename IntsAre _ ((tw.set nm wi).map _) => I6
  refine hQ _ _ _ nm wi _ _ _ _ hsi F6 rfl rfl rfl rfl rfl rfl rfl rfl rfl rfl (Mine.News.sub N6 fun p hp => ?_) I6
  exact List.mem_cons_of_mem _ (List.mem_cons_of_mem _ (List.mem_cons_of_mem _ hp))
end
end
section
open PySem PySem.W PyProof.Rows PySem.Flt
local macro_rules | `(tactic| walk_at "binaryOp Div int int") => `(tactic| (k_here; k_dflt (refine' g_div (by lia) (by lia) (by lia) (by exact Nat.succ_ne_zero _) ?_); walk_at "ie"))
local macro_rules | `(tactic| walk_at "call ref") => `(tactic| (k_here; (with_reducible show wpAny _ _ (call (Value.ref 70) _ _) _ _ _); (with_reducible rename Fr _ _ _ _ => kF); k_dflt (refine' c_bis (by assumption) kF (by assumption) (by k_asm) (by assumption) (by rfl) (by ktr_room) (by (walk_at "mem")) (by with_reducible assumption) (by with_reducible assumption) (by with_reducible assumption) ?_); walk_at "ie"))
local macro_rules | `(tactic| walk_at "call ref") => `(tactic| (k_here; (with_reducible show wpAny _ _ (call (Value.ref 113) _ _) _ _ _); (with_reducible rename Fr _ _ _ _ => kF); k_dflt (refine' c_graph (by assumption) kF (by assumption) (by k_asm) (by assumption) (by rfl) (by ktr_room) (by (walk_at "mem")) (by with_reducible assumption) (by with_reducible assumption) ?_); walk_at "ie"))
local macro_rules | `(tactic| walk_at "execs cons") => `(tactic| ((with_reducible show wpAny _ _ (execs (Stmt.Assign [Expr.Name (Str.ofString "near") _] _ _ :: _) _) _ _ _); refine Halt.mk ?_))
local macro_rules | `(tactic| walk_at "execs cons") => `(tactic| ((with_reducible show wpAny _ _ (execs (Stmt.For _ _ _ _ _ :: _) _) _ _ _); refine Halt.mk ?_))
section
variable {w : World} {mean : ExcName → Option Value} {mg mb : Str → Option Value} {dp un : Nat} {gd : Option (List Code)} {cn : Str} {cs : Scope} {a : Addr} {ccd : Value} {cl : List (Str × Addr)} {outer : List Env} {A₀ : Around} {base h₀ : Heap} {L : Addr} {m : Str → Option Value} {news : List (Addr × Obj)} {s : Shared} {Q : Flow → Shared → Prop} {E : Value → Shared → Prop}
set_option maxRecDepth 100000
set_option maxHeartbeats 8000000

theorem seg_t2 {S W WD TT : Addr} {vs wv : List Value} {n k4 st pa tn sz nm wi : Nat} {t1 t2 t3 t4 t5 t6 : Tok} {sh : List (Nat × Nat)} {ns : List Int} (B : Below A₀ base outer h₀) (F : Fr h₀ L s.heap m) (X : (Mine.hd.heap_39 w.params).In h₀) (N : News h₀ L s.heap ((S, listOf (List.toArray vs) n) :: news)) (T : Top Mine.hd.view_39 looseL mean mg mb h₀) (hd : dp + 40 < recursionLimit) (hE : PassesOwn (model Challenge.rw_sc0061_01.row.prog w) (ktrTop dp un gd (Str.ofString "law") lawScope L a ccd [(Str.ofString "mails", L + 1 + 1), (Str.ofString "ends", L + 1)] outer) (envX (Str.ofString "law") lawScope L a ccd [(Str.ofString "mails", L + 1 + 1), (Str.ofString "ends", L + 1)]) E) (vs0 : m (Str.ofString "wishes") = some (.ref W)) (vs1 : m (Str.ofString "turns") = some (.int (tn : Int) t1)) (vs2 : m (Str.ofString "start") = some (.int (st : Int) t2)) (vs3 : m (Str.ofString "part") = some (.int ((pa + 1 : Nat) : Int) t3)) (vs4 : m (Str.ofString "words") = some (.ref WD)) (vs5 : m (Str.ofString "shelf") = some (.ref S)) (vs6 : m (Str.ofString "told") = some (.ref TT)) (vs7 : m (Str.ofString "size") = some (.int (sz : Int) t4)) (vs8 : m (Str.ofString "name") = some (.int (nm : Int) t5)) (vs9 : m (Str.ofString "wish") = some (.int (wi : Int) t6))
    (hS : Shelf news vs sh st (pa + 1)) (hso : SortP sh) (h5 : sh.length ≤ 5) (hpa : pa < 4) (hW : (W, listOf (List.toArray wv) k4) ∈ news) (hI : IntsAre wv ns) (hn5 : ns.length = 5)
    (hR : ∀ h' tk m' r, Fr h₀ L h' m' → wi > sh.length - posP sh 0 → r.Perm ns → r.Pairwise (· ≥ ·) → Q (.ret (.bool (!grT r))) { s with heap := h', toks := tk })
    (hQ : ∀ h' tk m' NR S2 NA k1, wi ≤ sh.length - posP sh 0 → Fr h₀ L h' m' → m' (Str.ofString "wishes") = some (.ref W) → m' (Str.ofString "turns") = some (.int (tn : Int) t1) → m' (Str.ofString "start") = some (.int (st : Int) t2) → m' (Str.ofString "part") = some (.int ((pa + 1 : Nat) : Int) t3) → m' (Str.ofString "words") = some (.ref WD) → m' (Str.ofString "shelf") = some (.ref S2) → m' (Str.ofString "told") = some (.ref TT) → m' (Str.ofString "size") = some (.int (sz : Int) t4) → m' (Str.ofString "name") = some (.int (nm : Int) t5) → m' (Str.ofString "wish") = some (.int (wi : Int) t6) → m' (Str.ofString "near") = some (.ref NR) → m' (Str.ofString "names") = some (.ref NA) → News h₀ L h' ((NA, listOf (List.toArray []) 0) :: (S2, listOf (List.toArray (vs.take (sh.length - wi))) 0) :: (NR, listOf (List.toArray (vs.drop (sh.length - wi))) k1) :: (S, listOf (List.toArray vs) n) :: news) →
      (∀ p ∈ (S, listOf (List.toArray vs) n) :: news, p.1 < NR) → NA ≠ S2 → (∀ p ∈ (NR, listOf (List.toArray (vs.drop (sh.length - wi))) k1) :: (S, listOf (List.toArray vs) n) :: news, p.1 < S2) → (∀ p ∈ (NR, listOf (List.toArray (vs.drop (sh.length - wi))) k1) :: (S, listOf (List.toArray vs) n) :: news, p.1 < NA) → wpAny (model Challenge.rw_sc0061_01.row.prog w) (ktrTop dp un gd (Str.ofString "law") lawScope L a ccd [(Str.ofString "mails", L + 1 + 1), (Str.ofString "ends", L + 1)] outer) (execs (turnBody.drop 13) (envX (Str.ofString "law") lawScope L a ccd [(Str.ofString "mails", L + 1 + 1), (Str.ofString "ends", L + 1)])) Q E { s with heap := h', toks := tk })
    : wpAny (model Challenge.rw_sc0061_01.row.prog w) (ktrTop dp un gd (Str.ofString "law") lawScope L a ccd [(Str.ofString "mails", L + 1 + 1), (Str.ofString "ends", L + 1)] outer) (execs (turnBody.drop 7) (envX (Str.ofString "law") lawScope L a ccd [(Str.ofString "mails", L + 1 + 1), (Str.ofString "ends", L + 1)])) Q E s := by
  have F1 := kst_self F (ps := [(Str.ofString "wishes", .ref W), (Str.ofString "turns", .int (tn : Int) t1), (Str.ofString "start", .int (st : Int) t2), (Str.ofString "part", .int ((pa + 1 : Nat) : Int) t3), (Str.ofString "words", .ref WD), (Str.ofString "shelf", .ref S), (Str.ofString "told", .ref TT), (Str.ofString "size", .int (sz : Int) t4), (Str.ofString "name", .int (nm : Int) t5), (Str.ofString "wish", .int (wi : Int) t6)]) (all_cons vs0 (all_cons vs1 (all_cons vs2 (all_cons vs3 (all_cons vs4 (all_cons vs5 (all_cons vs6 (all_cons vs7 (all_cons vs8 (all_cons vs9 all_nil))))))))))
  clear F
  have hv100 : vs.length ≤ 100 := by rw [hS.1]; lia
  have hdm : divF (8 - ((pa + 1 : Nat) : Int)) 64 = lF (pa + 1) 0 := dim_eq (by lia)
  have hL2 : Lamps ((S, listOf (List.toArray vs) n) :: news) vs (sh.map fun p => lF (pa + 1) p.2) := (hS.mono fun _ h => .tail _ h).lamps hpa
  have hmo : ∀ (i j : Nat) li lj, i ≤ j → (sh.map fun p => lF (pa + 1) p.2)[i]? = some li → (sh.map fun p => lF (pa + 1) p.2)[j]? = some lj → ltF (divF (8 - ((pa + 1 : Nat) : Int)) 64) li = true → ltF (divF (8 - ((pa + 1 : Nat) : Int)) 64) lj = true := by
    rw [hdm]; exact mono_of hS.2.1 hpa (by decide) hso
  have hps : (sh.map fun p => lF (pa + 1) p.2).findIdx (ltF (divF (8 - ((pa + 1 : Nat) : Int)) 64)) = posP sh 0 := by rw [hdm]; exact pos_of hS.2.1 hpa (by decide)
  revert X
  k_fill
  intro X
  conv in (execs _ _) => (arg 1; whnf)
  conv in (envX _ _ _ _ _ _) => (arg 2; whnf)
  walk_at "go"
  · rename _ < _ => hlt
    rw [hps, hS.1] at hlt
    exact hR _ _ _ _ (by assumption) (by have := pos_le (sh := sh) (w := 0); lia) (by assumption) (by assumption)
  refine Halt.out ?_
  rename Fr _ _ _ _ => F5
  rename ¬ _ < _ => hlt
  rw [hps, hS.1] at hlt
  have hp9 := pos_le (sh := sh) (w := 0)
  have hcut : (vs.length : Int) - (wi : Int) = ((sh.length - wi : Nat) : Int) := by rw [hS.1]; lia
  rw [hcut] at F5
  have hvl : vs.length = sh.length := hS.1
  refine wpAny_execs_cons ?_
  walk_at "go"
  refine Halt.out ?_
  rename Fr _ _ _ _ => F6
  rename News _ _ _ _ => N6
  refine hQ _ _ _ _ _ _ _ (by lia) F6 rfl rfl rfl rfl rfl rfl rfl rfl rfl rfl rfl rfl N6 (by assumption) ?_ (by assumption) ?_
  all_goals rename _ < _ ∧ _ < _ ∧ _ < _ ∧ AllLt _ _ => l9
  · exact Nat.ne_of_gt l9.1
  · exact ktn_ltOf (l := (_, _) :: (_, _) :: news) l9.2
end
end
section
open PySem PySem.W PyProof.Rows PySem.Flt
local macro_rules | `(tactic| walk_at "exec For Name Name cons nil") => `(tactic| (k_here; (with_reducible rename Fr _ _ _ _ => lF'); k_dflt (refine' For_invVF lF' (by rfl) (by rfl) ?_ (by (intro _; rfl)) (by assumption))))
local macro_rules | `(tactic| walk_at "setItem ref int") => `(tactic| ((try dsimp only); k_here; k_dflt (refine' g_setnat (by k_asm) (by k_asm) (by walk_at "upd") (by with_reducible assumption) (by lia) (by lia) ?_); intro h' F' N' hI'; (try dsimp only at N'); (try k_sweep); (try dsimp only)))
local macro_rules | `(tactic| walk_at "compareOp NotEq ref ref") => `(tactic| (k_here; (with_reducible rename Fr _ _ _ _ => kF); k_dflt (refine' g_neq3 kF (by assumption) (by k_asm) (by with_reducible assumption) (by (walk_at "mem")) (by (walk_at "mem")) (by with_reducible assumption) (by exact rfl) (by exact rfl) (by with_reducible assumption) (by with_reducible assumption) (by with_reducible assumption) (by with_reducible assumption) (by with_reducible assumption) (by with_reducible assumption) (by with_reducible assumption) ?_)))
local macro_rules | `(tactic| walk_at "binaryOp Mult float int") => `(tactic| (k_here; k_dflt (refine' g_mulfi (by rfl) ?_); walk_at "ie"))
local macro_rules | `(tactic| walk_at "subscriptTail Name Constant ref int") => `(tactic| ((try dsimp only); k_here; k_dflt (refine' g_titem (by k_asm) (by (walk_at "mem")) (by decide) (by decide) (by exact rfl) (by exact rfl) ?_ (by with_unfolding_all rfl)); (try dsimp only)))
local macro_rules | `(tactic| walk_at "call builtin:list.pop") => `(tactic| (k_here; k_dflt (refine' g_pop (by k_asm) (by k_asm) (by with_reducible assumption) (by with_reducible assumption) (by with_reducible assumption) (by walk_at "upd") ?_); intro h' F' N'; (try dsimp only at N'); (try k_sweep); (try dsimp only)))
local macro_rules | `(tactic| walk_at "call ref") => `(tactic| (k_here; (with_reducible show wpAny _ _ (call (Value.ref 45) _ _) _ _ _); (with_reducible rename Fr _ _ _ _ => kF); k_dflt (refine' c_hsvL (by assumption) kF (by assumption) (by k_asm) (by assumption) (by rfl) (by ktr_room) (by with_reducible assumption) (by with_reducible assumption) (by with_reducible assumption) (by with_reducible assumption) (by with_reducible assumption) ?_); walk_at "ie"))
local macro_rules | `(tactic| walk_at "call type:int") => `(tactic| (k_here; k_dflt (first | (refine' g_inthue (by rfl) (by with_reducible assumption) ?_) | (refine' g_intval (by rfl) (by with_reducible assumption) ?_)); walk_at "ie"))
local macro_rules | `(tactic| walk_at "call ref") => `(tactic| (k_here; (with_reducible show wpAny _ _ (call (Value.ref 61) _ _) _ _ _); refine Halt.mk ?_))
local macro_rules | `(tactic| walk_at "call ref") => `(tactic| (k_here; (with_reducible show wpAny _ _ (call (Value.ref 52) _ _) _ _ _); (with_reducible rename Fr _ _ _ _ => kF); k_dflt (refine' c_rgb (by assumption) kF (by assumption) (by k_asm) (by assumption) (by rfl) (by ktr_room) (by with_reducible assumption) (by with_reducible assumption) (by with_reducible assumption) (by with_reducible assumption) (by first | (with_reducible assumption) | exact Nat.succ_ne_zero _) ?_); walk_at "ie"))
local macro_rules | `(tactic| walk_at "lit") => `(tactic| first | lia | (simp only [show (Str.ofString "abcde").length = 5 from rfl, show (Str.ofString "ABCDE").length = 5 from rfl]; lia))
local macro_rules | `(tactic| walk_at "subscriptTail Name Name ref int") => `(tactic| ((try dsimp only); k_here; k_dflt (refine' g_item_refs (by k_asm) (by (walk_at "mem")) (by lia) (by lia) ?_ (by with_unfolding_all rfl)); (try dsimp only)))
local macro_rules | `(tactic| walk_at "setItem ref int") => `(tactic| ((try dsimp only); refine Halt.mk ?_))
local macro_rules | `(tactic| walk_at "execs cons") => `(tactic| ((with_reducible show wpAny _ _ (execs (Stmt.Expr _ _ :: _) _) _ _ _); refine Halt.mk ?_))
local macro_rules | `(tactic| walk_at "execs cons") => `(tactic| ((with_reducible show wpAny _ _ (execs (Stmt.Assign [Expr.Name (Str.ofString "sent") _] _ _ :: _) _) _ _ _); refine Halt.mk ?_))
section
variable {w : World} {mean : ExcName → Option Value} {mg mb : Str → Option Value} {dp un : Nat} {gd : Option (List Code)} {cn : Str} {cs : Scope} {a : Addr} {ccd : Value} {cl : List (Str × Addr)} {outer : List Env} {A₀ : Around} {base h₀ : Heap} {L : Addr} {m : Str → Option Value} {news : List (Addr × Obj)} {s : Shared} {Q : Flow → Shared → Prop} {E : Value → Shared → Prop}
set_option maxRecDepth 100000
set_option maxHeartbeats 8000000

theorem seg_t3 {S2 W WD TT NR NA : Addr} {vs2 nrv : List Value} {k0 k1 kw st pa tn sz nm : Nat} {t1 t2 t3 t4 t5 : Tok} {sh2 near : List (Nat × Nat)} {ra : List Addr} {rc : List Obj} {rest bl : List (Addr × Obj)} {G : Nat → Nat → Bool} (B : Below A₀ base outer h₀) (F : Fr h₀ L s.heap m) (X : (Mine.hd.heap_39 w.params).In h₀) (N : News h₀ L s.heap ((NA, listOf (List.toArray []) 0) :: (S2, listOf (List.toArray vs2) k0) :: (ra.zip rc ++ rest))) (T : Top Mine.hd.view_39 looseL mean mg mb h₀) (hd : dp + 40 < recursionLimit) (hE : PassesOwn (model Challenge.rw_sc0061_01.row.prog w) (ktrTop dp un gd (Str.ofString "law") lawScope L a ccd [(Str.ofString "mails", L + 1 + 1), (Str.ofString "ends", L + 1)] outer) (envX (Str.ofString "law") lawScope L a ccd [(Str.ofString "mails", L + 1 + 1), (Str.ofString "ends", L + 1)]) E) (va0 : m (Str.ofString "wishes") = some (.ref W)) (va1 : m (Str.ofString "turns") = some (.int (tn : Int) t1)) (va2 : m (Str.ofString "start") = some (.int (st : Int) t2)) (va3 : m (Str.ofString "part") = some (.int ((pa + 1 : Nat) : Int) t3)) (va4 : m (Str.ofString "words") = some (.ref WD)) (va5 : m (Str.ofString "shelf") = some (.ref S2)) (va6 : m (Str.ofString "told") = some (.ref TT)) (va7 : m (Str.ofString "size") = some (.int (sz : Int) t4)) (va8 : m (Str.ofString "name") = some (.int (nm : Int) t5)) (va9 : m (Str.ofString "near") = some (.ref NR)) (va10 : m (Str.ofString "names") = some (.ref NA))
    (hNR : (NR, listOf (List.toArray nrv) k1) ∈ rest) (hWD : (WD, listOf (List.toArray (ra.map Value.ref)) kw) ∈ rest) (hbl : ∀ p ∈ bl, p ∈ rest) (hSn : Shelf bl nrv near st (pa + 1)) (hS2 : Shelf bl vs2 sh2 st (pa + 1)) (hso : SortP sh2) (hlen : sh2.length + near.length ≤ 5) (hnear : ∀ q ∈ near, 1 ≤ q.2 ∧ q.1 ≠ nm) (hnm : nm < 5)
    (hra : ra.Nodup) (hra5 : ra.length = 5) (hG : Rows rc G) (hn1 : NA ≠ S2) (hn2 : NA ∉ ra) (hn3 : S2 ∉ ra) (hrest : ∀ p ∈ rest, p.1 ≠ NA ∧ p.1 ≠ S2 ∧ p.1 ∉ ra) (hst : st < 8) (hpa : pa < 4)
    (hQ : ∀ h' tk m' nv v3 rc3 lp n1 n3, Fr h₀ L h' m' → m' (Str.ofString "wishes") = some (.ref W) → m' (Str.ofString "turns") = some (.int (tn : Int) t1) → m' (Str.ofString "start") = some (.int (st : Int) t2) → m' (Str.ofString "part") = some (.int ((pa + 1 : Nat) : Int) t3) → m' (Str.ofString "words") = some (.ref WD) → m' (Str.ofString "shelf") = some (.ref S2) → m' (Str.ofString "told") = some (.ref TT) → m' (Str.ofString "size") = some (.int (sz : Int) t4) → m' (Str.ofString "name") = some (.int (nm : Int) t5) → m' (Str.ofString "near") = some (.ref NR) → m' (Str.ofString "names") = some (.ref NA) → News h₀ L h' ((NA, listOf (List.toArray nv) n1) :: (S2, listOf (List.toArray v3) n3) :: (ra.zip rc3 ++ (lp ++ rest))) →
      IntsAre nv (near.map fun q => ((q.1 : Nat) : Int)) → Shelf (lp ++ bl) v3 (nearSh sh2 near) st (pa + 1) → Rows rc3 (nearG G nm near) → (∀ p ∈ lp, p.1 ≠ NA ∧ p.1 ≠ S2 ∧ p.1 ∉ ra) → (∀ p ∈ lp, ∀ q ∈ rest, p.1 ≠ q.1) → wpAny (model Challenge.rw_sc0061_01.row.prog w) (ktrTop dp un gd (Str.ofString "law") lawScope L a ccd [(Str.ofString "mails", L + 1 + 1), (Str.ofString "ends", L + 1)] outer) (execs (turnBody.drop 14) (envX (Str.ofString "law") lawScope L a ccd [(Str.ofString "mails", L + 1 + 1), (Str.ofString "ends", L + 1)])) Q E { s with heap := h', toks := tk })
    : wpAny (model Challenge.rw_sc0061_01.row.prog w) (ktrTop dp un gd (Str.ofString "law") lawScope L a ccd [(Str.ofString "mails", L + 1 + 1), (Str.ofString "ends", L + 1)] outer) (execs (turnBody.drop 13) (envX (Str.ofString "law") lawScope L a ccd [(Str.ofString "mails", L + 1 + 1), (Str.ofString "ends", L + 1)])) Q E s := by
  have F1 := kst_self F (ps := [(Str.ofString "wishes", .ref W), (Str.ofString "turns", .int (tn : Int) t1), (Str.ofString "start", .int (st : Int) t2), (Str.ofString "part", .int ((pa + 1 : Nat) : Int) t3), (Str.ofString "words", .ref WD), (Str.ofString "shelf", .ref S2), (Str.ofString "told", .ref TT), (Str.ofString "size", .int (sz : Int) t4), (Str.ofString "name", .int (nm : Int) t5), (Str.ofString "near", .ref NR), (Str.ofString "names", .ref NA)]) (all_cons va0 (all_cons va1 (all_cons va2 (all_cons va3 (all_cons va4 (all_cons va5 (all_cons va6 (all_cons va7 (all_cons va8 (all_cons va9 (all_cons va10 all_nil)))))))))))
  clear F
  revert X
  k_fill
  intro X
  conv in (execs _ _) => (arg 1; whnf)
  conv in (envX _ _ _ _ _ _) => (arg 2; whnf)
  walk_at "go"
  refine Halt.out ?_
  rename Fr _ _ _ _ => F2
  rename News _ _ _ _ => N2
  dsimp only
  refine iter_list_st (nl := k1) (vs := nrv) (l := NR) (σ := (List Value × Nat) × (List Value × Nat × List (Nat × Nat)) × List Obj × List (Addr × Obj)) (fun _ => [(Str.ofString "wishes", .ref W), (Str.ofString "turns", .int (tn : Int) t1), (Str.ofString "start", .int (st : Int) t2), (Str.ofString "part", .int ((pa + 1 : Nat) : Int) t3), (Str.ofString "words", .ref WD), (Str.ofString "shelf", .ref S2), (Str.ofString "told", .ref TT), (Str.ofString "size", .int (sz : Int) t4), (Str.ofString "name", .int (nm : Int) t5), (Str.ofString "near", .ref NR), (Str.ofString "names", .ref NA)])
    (fun c => (NA, listOf (List.toArray c.1.1) c.1.2) :: (S2, listOf (List.toArray c.2.1.1) c.2.1.2.1) :: (ra.zip c.2.2.1 ++ (c.2.2.2 ++ rest)))
    (fun j c => IntsAre c.1.1 ((near.take j).map fun q => ((q.1 : Nat) : Int)) ∧ Shelf (c.2.2.2 ++ bl) c.2.1.1 c.2.1.2.2 st (pa + 1) ∧ c.2.1.2.2 = nearSh sh2 (near.take j) ∧ Rows c.2.2.1 (nearG G nm (near.take j)) ∧ (∀ p ∈ c.2.2.2, p.1 ≠ NA ∧ p.1 ≠ S2 ∧ p.1 ∉ ra) ∧ ∀ p ∈ c.2.2.2, ∀ q ∈ rest, p.1 ≠ q.1)
    (([], 0), (vs2, k0, sh2), rc, []) rfl F2 N2 ?hl (fun _ h => h) (all_cons rfl (all_cons rfl (all_cons rfl (all_cons rfl (all_cons rfl (all_cons rfl (all_cons rfl (all_cons rfl (all_cons rfl (all_cons rfl (all_cons rfl all_nil))))))))))) ⟨.nil, hS2, rfl, hG, (fun _ h => nomatch h), fun _ h => nomatch h⟩ ?turn ?done
  case hl => exact .tail _ (.tail _ (List.mem_append_right _ hNR))
  case done =>
    (try clear F2); (try clear N2)
    rintro ⟨⟨nv, n1⟩, ⟨v3, n3, sh3⟩, rc3, lp⟩ u h tk ⟨p1, p2, p3, p4, p5, p6⟩ F3 N3
    dsimp only at p1 p2 p3 p4 p5 p6 F3 N3
    rw [hSn.1] at p1 p3 p4
    rw [List.take_length] at p1 p3 p4
    subst p3
    walk_at "go"
    refine Halt.out ?_
    exact hQ _ _ _ nv v3 rc3 lp n1 n3 F3 rfl rfl rfl rfl rfl rfl rfl rfl rfl rfl rfl N3 p1 p2 p4 p5 p6
  case turn =>
    (try clear F2); (try clear N2)
    rintro I j v ⟨⟨nv, n1⟩, ⟨v3, n3, sh3⟩, rc3, lp⟩ u h tk own Qn hlt hv ⟨p1, p2, p3, p4, p5, p6⟩ hoff ⟨oI, hI9⟩ hown F3 N3 hQn
    dsimp only at p1 p2 p3 p4 p5 p6 hoff F3 N3 hQn
    have hjv : j < nrv.length := (List.getElem?_eq_some_iff.mp hv).1
    have hjn : j < near.length := by rw [← hSn.1]; exact hjv
    obtain ⟨⟨o, x⟩, hq⟩ : ∃ q, near[j]? = some q := ⟨_, List.getElem?_eq_getElem hjn⟩
    obtain ⟨b1, b2⟩ := hSn.2.1 _ (List.mem_of_getElem? hq)
    obtain ⟨c1, c2⟩ := hnear _ (List.mem_of_getElem? hq)
    obtain ⟨xl, ta, tb, tc, hnz, hvx, hmx⟩ := hSn.2.2 j _ _ hv hq
    dsimp only at b1 b2 c1 c2 hmx
    subst hvx
    obtain ⟨y, rfl⟩ : ∃ y, x = y + 1 := ⟨x - 1, by lia⟩
    have hX : ∀ p ∈ lp ++ rest ++ own, p.1 ≠ NA ∧ p.1 ≠ S2 ∧ p.1 ∉ ra := fun p hp => by
      rcases List.mem_append.mp hp with q | q
      · rcases List.mem_append.mp q with q | q
        · exact p5 p q
        · exact hrest p q
      · rcases hown p q with e | e
        · rw [e]
          refine ⟨fun e => hoff _ (.head _) e.symm, fun e => hoff _ (.tail _ (.head _)) e.symm, fun hm => ?_⟩
          obtain ⟨i9, hi9, e9⟩ := List.mem_iff_getElem.mp hm
          have hz9 : i9 < rc3.length := by rw [p4.1]; lia
          refine hoff (I, rc3[i9]) (.tail _ (.tail _ (List.mem_append_left _ ?_))) rfl
          rw [← e9]
          refine List.mem_iff_getElem.mpr ⟨i9, by rw [List.length_zip]; lia, by rw [List.getElem_zip]⟩
        · rw [e]; exact hrest _ hNR
    have N4 : News h₀ L h ((NA, listOf (List.toArray nv) n1) :: (S2, listOf (List.toArray v3) n3) :: (ra.zip rc3 ++ (lp ++ rest ++ own))) := Mine.News.sub N3 (by walk_at "sub")
    have hmx2 : (xl, tupO [.float (col ((st + o) % 8) (pa + 1) (y + 1)).1 ta, .float (col ((st + o) % 8) (pa + 1) (y + 1)).2.1 tb, .float (col ((st + o) % 8) (pa + 1) (y + 1)).2.2 tc]) ∈ lp ++ rest ++ own := List.mem_append_left _ (List.mem_append_right _ (hbl _ hmx))
    have hWD2 : (WD, listOf (List.toArray (ra.map Value.ref)) kw) ∈ lp ++ rest ++ own := List.mem_append_left _ (List.mem_append_right _ hWD)
    obtain ⟨⟨r8, g8, b8⟩, hcol⟩ : ∃ c, col ((st + o) % 8) (pa + 1) (y + 1) = c := ⟨_, rfl⟩
    rw [hcol] at hmx2
    dsimp only at hmx2
    have hk8 : (st + o) % 8 < 8 := Nat.mod_lt _ (by decide)
    have hl9 : nv.length ≤ 5 := by rw [p1.length, List.length_map, List.length_take]; lia
    have hoffA : ∀ p ∈ (S2, listOf (List.toArray v3) n3) :: (ra.zip rc3 ++ (lp ++ rest ++ own)), p.1 ≠ NA := fun p hp => by
      rcases List.mem_cons.mp hp with rfl | hp
      · exact hn1.symm
      · rcases List.mem_append.mp hp with q | q
        · exact fun e => hn2 (e ▸ (List.of_mem_zip (a := p.1) (b := p.2) q).1)
        · exact (hX p q).1
    (try clear N3); (try clear N)
    (try dsimp only); (try k_fold)
    walk_at "go"
    refine Halt.out ?_
    rename Fr _ _ _ _ => F5
    have e2 : ((((st + o) % 8 : Nat) : Int) - (st : Int)) % 8 = (o : Int) := by lia
    rw [e2] at F5
    have hr1 : nm < ra.length := by rw [hra5]; exact hnm
    have hr2 : o < ra.length := by rw [hra5]; exact b1
    have hc1 : nm < rc3.length := by rw [p4.1]; exact hnm
    have hc2 : o < rc3.length := by rw [p4.1]; exact b1
    obtain ⟨hA1, hA2⟩ := tl_up o b1
    obtain ⟨hA3, hA4⟩ := tl_up nm hnm
    refine wpAny_execs_cons ?_
    walk_at "go"
    refine Halt.out ?_
    rename Fr _ _ _ _ => F6
    rename News _ _ _ _ => N6
    replace ⟨y9, hy9, N6⟩ := cap N6
    rename ∀ p, p ∈ (NA, _) :: _ → _ => l6
    have hT9 : ∀ (D : Addr), (∀ p ∈ (NA, listOf (List.toArray nv) n1) :: (S2, listOf (List.toArray v3) n3) :: (ra.zip rc3 ++ (lp ++ rest ++ own)), p.1 < D) → D ∉ ra := fun D hD hm => by
      obtain ⟨o9, ho9⟩ := zip_has hm (by rw [hra5, p4.1] : ra.length = rc3.length)
      exact Nat.lt_irrefl _ (hD _ (.tail _ (.tail _ (List.mem_append_left _ ho9))))
    refine row_store F6 N6 hra hr1 (List.getElem?_eq_getElem hc1) (p4.2 nm _ (List.getElem?_eq_getElem hc1)) b1 hA1 (hT9 _ l6) hn2 hn3 (fun p hp => (hX p hp).2.2) ?_
    intro h7 oA hoA F7 N7
    (try clear N6); (try clear F6)
    walk_at "go"
    refine Halt.out ?_
    rename Fr _ _ _ _ => F8
    rename News _ _ _ _ => N8
    refine row_store F8 N8 hra hr2 (by rw [List.getElem?_set_ne c2.symm]; exact List.getElem?_eq_getElem hc2) (p4.2 o _ (List.getElem?_eq_getElem hc2)) hnm hA3 (hT9 _ l6) hn2 hn3 (fun p hp => (hX p hp).2.2) ?_
    intro h9 oB hoB F9 N9
    (try clear N8); (try clear F8)
    walk_at "go"
    refine Halt.out ?_
    obtain ⟨z1, z2, z3⟩ := hue_oks hk8
    have z0 := share_ok pa hpa
    refine wpAny_execs_cons ?_
    walk_at "go"
    refine Halt.out ?_
    rename_i D5 _ _ r5 g5 b5 td te tf m1 m2 m3 e5 F10 N10 l10
    rw [val_less y (by lia)] at e5
    have e6 : col ((st + o) % 8) (pa + 1) y = (r5, g5, b5) := e5
    have hy5 : y < 5 := by lia
    have hLI : LampIs ((D5, tupO [.float r5 td, .float g5 te, .float b5 tf]) :: (lp ++ bl)) (.ref D5) (col ((st + o) % 8) (pa + 1) y) := by
      rw [e6]; exact ⟨D5, _, _, _, ⟨m1, m2, m3⟩, rfl, .head _⟩
    have p2' := p2.mono (news' := (D5, tupO [.float r5 td, .float g5 te, .float b5 tf]) :: (lp ++ bl)) fun _ h => .tail _ h
    have hlz : v3.length ≤ 100 := by
      have q1 := p2.1
      rw [p3, nearSh_len, List.length_take] at q1
      lia
    have hoffB : ∀ p ∈ ra.zip ((rc3.set nm oA).set o oB) ++ (lp ++ rest ++ own), p.1 ≠ S2 := fun p hp => by
      rcases List.mem_append.mp hp with q | q
      · exact fun e => hn3 (e ▸ (List.of_mem_zip (a := p.1) (b := p.2) q).1)
      · exact (hX p q).2.1
    have hrows := p4.link c2.symm hoA hoB
    have hlt5 : ∀ p ∈ lp ++ rest ++ own, p.1 < D5 := fun p hp => l10 p (.tail _ (.tail _ (.tail _ (List.mem_append_right _ hp))))
    have hD5A : NA < D5 := l10 _ (.tail _ (.head _))
    have hD5S : S2 < D5 := l10 _ (.tail _ (.tail _ (.head _)))
    have hD5T := l10 _ (.head _)
    have hD5r : D5 ∉ ra := fun hm => by
      obtain ⟨o9, ho9⟩ := zip_has hm (by rw [hra5]; exact hrows.1.symm : ra.length = ((rc3.set nm oA).set o oB).length)
      exact Nat.lt_irrefl _ (l10 _ (.tail _ (.tail _ (.tail _ (List.mem_append_left _ ho9)))))
    have hin : ∀ (q1 q2 q3 : Addr × Obj), ∀ p ∈ (D5, tupO [.float r5 td, .float g5 te, .float b5 tf]) :: (lp ++ bl), p ∈ (D5, tupO [.float r5 td, .float g5 te, .float b5 tf]) :: q1 :: q2 :: q3 :: (ra.zip ((rc3.set nm oA).set o oB) ++ (lp ++ rest ++ own)) := fun q1 q2 q3 p hp => by
      rcases List.mem_cons.mp hp with rfl | hp
      · exact .head _
      · exact .tail _ (.tail _ (.tail _ (.tail _ (List.mem_append_right _ (List.mem_append_left _ ((List.mem_append.mp hp).elim (fun q => List.mem_append_left _ q) fun q => List.mem_append_right _ (hbl _ q)))))))
    refine c_ins (by assumption) F10 (by assumption) N10 (by assumption) rfl (by ktr_room) hlz (lampAt_of (hLI.mono (hin _ _ _)) hk8 hpa hy5) ((p2'.mono (hin _ _ _)).lamps hpa) (mono_of p2.2.1 hpa hy5 (by rw [p3]; exact nearSh_sort hso)) (.tail (Nat.ne_of_gt hD5S) (.tail (Nat.ne_of_gt (l6 _ (.tail _ (.head _)))) (.tail hn1 (.head hoffB)))) ?_
    intro h11 tk11 F11 N11
    rw [pos_of p2.2.1 hpa hy5] at N11
    walk_at "go"
    refine Halt.out ?_
    show Qn _
    rename Fr _ _ _ _ => F12
    refine hQn ((nv ++ [y9], n1 + 1), (insAt v3 (posP sh3 y) (.ref D5), n3 + 1, insP sh3 (o, y)), (rc3.set nm oA).set o oB, (D5, tupO [.float r5 td, .float g5 te, .float b5 tf]) :: lp) _ _ _ _ ⟨?_, p2'.ins hLI b1 hy5, by rw [near_succ hq, ← p3]; rfl, by rw [nearG_succ hq]; exact hrows, ?_, ?_⟩ ?_ F12 (all_cons rfl (all_cons rfl (all_cons rfl (all_cons rfl (all_cons rfl (all_cons rfl (all_cons rfl (all_cons rfl (all_cons rfl (all_cons rfl (all_cons rfl all_nil))))))))))) N11 ?_
    · rw [List.take_add_one, hq, List.map_append]
      rw [hy9]; exact p1.append (.cons _ _ .nil)
    · intro p hp
      rcases List.mem_cons.mp hp with rfl | hp
      · exact ⟨Nat.ne_of_gt hD5A, Nat.ne_of_gt hD5S, hD5r⟩
      · exact p5 p hp
    · intro p hp q hq
      rcases List.mem_cons.mp hp with rfl | hp
      · exact Nat.ne_of_gt (hlt5 q (List.mem_append_left _ (List.mem_append_right _ hq)))
      · exact p6 p hp q hq
    · intro p hp e
      rcases List.mem_cons.mp hp with rfl | hp
      · exact hoff _ (.head _) e
      · rcases List.mem_cons.mp hp with rfl | hp
        · exact hoff _ (.tail _ (.head _)) e
        · rcases List.mem_append.mp hp with q | q
          · obtain ⟨o9, ho9⟩ := zip_has (List.of_mem_zip (a := p.1) (b := p.2) q).1 (by rw [hra5, p4.1] : ra.length = rc3.length)
            exact hoff _ (.tail _ (.tail _ (List.mem_append_left _ ho9))) e
          · rcases List.mem_cons.mp q with rfl | q
            · exact Nat.lt_irrefl _ (e ▸ hlt5 _ (List.mem_append_right _ hI9))
            · exact hoff p (.tail _ (.tail _ (List.mem_append_right _ q))) e
    · walk_at "sub"
end
end
section
open PySem PySem.W PyProof.Rows PySem.StrLaws PySem.Builtin.Str
/-! lines, each with both signs -/
def body (ls : List (List Nat)) : List Nat := (ls.map fun l => l ++ [13, 10]).flatten
def Clean (l : List Nat) : Prop := ∀ c ∈ l, c ≠ 13 ∧ c ≠ 10
theorem body_cons {l : List Nat} {r : List (List Nat)} : body (l :: r) = l ++ 13 :: 10 :: body r := by simp [body]
theorem at_iff {x y : Str} (hy : tl y = [13, 10]) {i : Nat} : At x y x.length i ↔ i + 2 ≤ x.length ∧ ((tl x).drop i).take 2 = [13, 10] := by
  have hl : y.length = 2 := by rw [← tl_len, hy]; rfl
  unfold At
  rw [subAt_eq, hl]
  show _ ∧ ((((tl x).drop i).take 2) == tl y) = true ↔ _
  rw [hy, beq_iff_eq]
theorem parts_lines {x y : Str} (hy : tl y = [13, 10]) : ∀ (ls : List (List Nat)) (a : Nat) (cuts : List Nat) (f : Nat), ChainG x y x.length a cuts f → (∀ k, f ≤ k → ¬ At x y x.length k) → (tl x).drop a = body ls → (∀ l ∈ ls, Clean l) → (partsFrom x 2 a cuts).map tl = ls ++ [[]]
  | [], a, [], f, h, hn, hd, _ => by
    show [tl (strSub x a x.length)] = [[]]
    have e : tl (strSub x a x.length) = ((tl x).drop a).take (x.length - a) := strSub_toList x a x.length
    rw [e, hd]; simp [body]
  | [], a, c :: r, f, h, hn, hd, _ => by
    have h1 := (at_iff hy).mp h.2.1
    have h2 : a ≤ c := h.1
    have h3 := congrArg List.length hd
    rw [List.length_drop, tl_len] at h3
    simp [body] at h3
    lia
  | l :: q, a, cuts, f, h, hn, hd, hc => by
    have hcl := hc l (.head _)
    rw [body_cons] at hd
    have hlen := congrArg List.length hd
    rw [List.length_drop, tl_len, List.length_append, List.length_cons, List.length_cons] at hlen
    have hdr : ∀ j, (tl x).drop (a + j) = (l ++ 13 :: 10 :: body q).drop j := fun j => by rw [← List.drop_drop, hd]
    have hA : At x y x.length (a + l.length) := (at_iff hy).mpr ⟨by lia, by rw [hdr, List.drop_left]; rfl⟩
    cases cuts with
    | nil =>
      have e : f = a := h
      exact absurd hA (hn _ (by lia))
    | cons c r =>
      obtain ⟨h1, h2, h3, h4⟩ := h
      have hle : c ≤ a + l.length := Nat.not_lt.mp fun q9 => h3 _ (by lia) q9 hA
      have hge : a + l.length ≤ c := Nat.not_lt.mp fun q9 => by
        obtain ⟨j, rfl⟩ : ∃ j, c = a + j := ⟨c - a, by lia⟩
        have hj : j < l.length := by lia
        have h5 := ((at_iff hy).mp h2).2
        rw [hdr, List.drop_append_of_le_length (by lia), List.drop_eq_getElem_cons hj] at h5
        simp only [List.cons_append, List.take_succ_cons] at h5
        have h6 := (List.cons.inj h5).1
        exact (hcl _ (List.getElem_mem hj)).1 h6
      have hca : c = a + l.length := by lia
      subst hca
      have hl2 : y.length = 2 := by rw [← tl_len, hy]; rfl
      rw [hl2] at h4
      have ih := parts_lines hy q (a + l.length + 2) r f h4 hn (by rw [Nat.add_assoc, hdr, ← List.drop_drop, List.drop_left]; rfl) fun l' hl' => hc l' (.tail _ hl')
      show tl (strSub x a (a + l.length)) :: (partsFrom x 2 (a + l.length + 2) r).map tl = l :: (q ++ [[]])
      rw [ih]
      have e : tl (strSub x a (a + l.length)) = ((tl x).drop a).take (a + l.length - a) := strSub_toList x a _
      rw [e, hd, Nat.add_sub_cancel_left, List.take_left]
theorem kind_one {y : Str} (hy : tl y = [13, 10]) : Builtin.Str.strKind y = 1 := by
  have e : y = strL [13, 10] := strL_of hy
  rw [e]; decide +kernel
theorem kind_pos {x : Str} : 1 ≤ Builtin.Str.strKind x := by
  unfold Builtin.Str.strKind
  split
  · exact Nat.le_refl _
  · split <;> decide
theorem split_lines {x y : Str} {ls : List (List Nat)} (hy : tl y = [13, 10]) (hx : tl x = body ls) (hc : ∀ l ∈ ls, Clean l) : (Txt.split x y).map tl = ls ++ [[]] := by
  have hl2 : y.length = 2 := by rw [← tl_len, hy]; rfl
  obtain ⟨f, hf, hn⟩ := occ_tight x y (by lia)
  have key := parts_lines hy ls 0 _ f hf hn (by rw [List.drop_zero, hx]) hc
  unfold Txt.split
  rw [kind_one hy, hl2]
  have hk : ¬ Builtin.Str.strKind x < 1 := Nat.not_lt.mpr kind_pos
  by_cases h1 : x.length < 2
  · rw [if_pos (by simp [h1])]
    cases ls with
    | nil => show [tl x] = [[]]; rw [hx]; rfl
    | cons l r =>
      have := congrArg List.length hx
      rw [body_cons, tl_len, List.length_append, List.length_cons, List.length_cons] at this
      lia
  · rw [if_neg (by simp [h1, hk])]
    split
    · rename_i h2
      have e : occurrences x y 0 x.length (x.length + 1) = [] := List.isEmpty_iff.mp h2
      rw [e] at key
      rw [← key]
      show [tl x] = [tl (strSub x 0 x.length)]
      have e : tl (strSub x 0 x.length) = ((tl x).drop 0).take (x.length - 0) := strSub_toList x 0 x.length
      rw [e, List.drop_zero, Nat.sub_zero, ← tl_len, List.take_length]
    · rw [partsBetween_eq]; exact key
/-! what quotedata makes of the mails -/
def IsE (e : List Nat) : Prop := e = [10] ∨ e = [13] ∨ e = [13, 10]
theorem crlf_clean : ∀ {l r : List Nat}, Clean l → crlf (l ++ r) = l ++ crlf r
  | [], _, _ => rfl
  | c :: l, r, h => by
    have hc := h c (.head _)
    rw [List.cons_append, crlf_no (by simp [isEnd, hc.1, hc.2]), crlf_clean fun d hd => h d (.tail _ hd)]; rfl
theorem crlf_end {e r : List Nat} (h : IsE e) (hr : r.getD 0 0 ≠ 10) : crlf (e ++ r) = 13 :: 10 :: crlf r := by
  rcases h with rfl | rfl | rfl
  · exact crlf_one (by decide) (fun q => absurd q (by decide))
  · exact crlf_one (by decide) (fun _ => hr)
  · rfl
def mailsT (ms : List (List Nat × List Nat)) : List Nat := (ms.map fun p => p.1 ++ p.2).flatten
theorem crlf_mails : ∀ {ms : List (List Nat × List Nat)}, (∀ p ∈ ms, Clean p.1 ∧ IsE p.2 ∧ p.1.getD 0 0 = 46) → crlf (mailsT ms) = body (ms.map (·.1))
  | [], _ => rfl
  | p :: r, h => by
    obtain ⟨h1, h2, h3⟩ := h p (.head _)
    have hr : (mailsT r).getD 0 0 ≠ 10 := by
      cases r with
      | nil => decide
      | cons q r' =>
        obtain ⟨k1, k2, k3⟩ := h q (.tail _ (.head _))
        unfold mailsT
        rw [List.map_cons, List.flatten_cons]
        cases hq : q.1 with
        | nil => rw [hq] at k3; exact absurd k3 (by decide)
        | cons c t => rw [hq] at k3; show c ≠ 10; have : c = 46 := k3; lia
    show crlf ((p.1 ++ p.2) ++ mailsT r) = _
    rw [List.append_assoc, crlf_clean h1, crlf_end h2 hr, crlf_mails fun q hq => h q (.tail _ hq), List.map_cons, body_cons]
theorem dots_clean : ∀ {l r : List Nat}, Clean l → dots false (l ++ 13 :: 10 :: r) = l ++ 13 :: 10 :: dots true r
  | [], _, _ => rfl
  | c :: l, r, h => by
    have hc := h c (.head _)
    show (if (false && c == 46) = true then [46, 46] else [c]) ++ dots (c == 10) (l ++ 13 :: 10 :: r) = _
    rw [show (c == 10) = false by simpa using hc.2, dots_clean fun d hd => h d (.tail _ hd)]; rfl
theorem dots_body : ∀ {ls : List (List Nat)}, (∀ l ∈ ls, Clean l ∧ l.getD 0 0 = 46) → dots true (body ls) = body (ls.map fun l => 46 :: l)
  | [], _ => rfl
  | l :: r, h => by
    obtain ⟨h1, h2⟩ := h l (.head _)
    rw [body_cons, List.map_cons, body_cons]
    cases l with
    | nil => exact absurd h2 (by decide)
    | cons c t =>
      have e : c = 46 := h2
      subst e
      show [46, 46] ++ dots false (t ++ 13 :: 10 :: body r) = _
      rw [dots_clean fun d hd => h1 d (.tail _ hd), dots_body fun q hq => h q (.tail _ hq)]; rfl
end
section
open PySem PySem.W PyProof.Rows
section
variable {prog : Program} {w : World} {A : Around} {E : Value → Shared → Prop} {Q : Flow → Shared → Prop} {s : Shared} {env : Env} {h₀ : Heap}
/-- a loop over zip of two lists of the ledger -/
theorem zip_rest {σ : Type} {elts : List Expr} {kk : Nat} {pos : Pos} {body : List Stmt} {xs ys : List Value} {I : Addr} {keep : List (Addr × Obj)}
    (ps : σ → List (Str × Value)) (Led : σ → List (Addr × Obj)) (P : Nat → σ → Prop) (ad : List Addr) (hkeep : ∀ c, SubL keep (Led c)) (hI : ∀ a ∈ ad, a < I)
    (turn : ∀ i x y T (c : σ) (u : Str → Option Value) h tk its (Qn : Shared → Prop), xs[i]? = some x → ys[i]? = some y → P i c → (Led c).map (·.1) = ad → (∀ p ∈ its, I ≤ p.1) → IsTup h T #[x, y] →
      Fr h₀ env.locals h (kstB u (ps c)) → News h₀ env.locals h (its ++ Led c) →
      (∀ (c' : σ) (u' : Str → Option Value) h' tk' news', P (i + 1) c' → (Led c').map (·.1) = ad → Fr h₀ env.locals h' u' → (∀ p ∈ ps c', u' p.1 = some p.2) → News h₀ env.locals h' news' → (∀ p ∈ its ++ Led c', p ∈ news') → Qn { s with heap := h', toks := tk' }) →
      wpAny (model prog w) A (assign (.Tuple elts kk pos) env (.ref T)) (fun _ s₂ => wpAny (model prog w) A (execs body env) (FlowPost Q Qn) E s₂) E { s with heap := h, toks := tk })
    (done : ∀ (c : σ) (u : Str → Option Value) h tk, P (min xs.length ys.length) c → Fr h₀ env.locals h (kstB u (ps c)) → News h₀ env.locals h (Led c) → Q .next { s with heap := h, toks := tk }) :
    ∀ n i (c : σ) (u : Str → Option Value), n + i = min xs.length ys.length → P i c → (Led c).map (·.1) = ad → (∀ p ∈ ps c, u p.1 = some p.2) →
      ItemsRest prog w A E h₀ env (.Tuple elts kk pos) body Q s [(I + 4, "zip"), (I + 2, "tuple"), (I + 3, "tuple"), (I, "list_iterator"), (I + 1, "list_iterator")] keep ((zipItems xs ys).drop i) u (Led c)
  | 0, i, c, u, e, hp, _, hk => by
    have e' : i = min xs.length ys.length := by lia
    subst e'
    rw [List.drop_of_length_le (by rw [zipItems_length]; exact Nat.le_refl _)]
    exact fun h tk F N => done c u h tk hp (kst_self F hk) N
  | n + 1, i, c, u, e, hp, ha, hk => by
    have h1 : i < xs.length := by lia
    have h2 : i < ys.length := by lia
    have hi : i < (zipItems xs ys).length := by rw [zipItems_length]; lia
    have hg := zipItems_get xs ys i (List.getElem?_eq_getElem h1) (List.getElem?_eq_getElem h2)
    rw [List.getElem?_eq_getElem hi] at hg
    rw [List.drop_eq_getElem_cons hi, Option.some.inj hg]
    refine ItemsRest.pair fun T t h tk hT F o1 _ o2 _ o3 _ o4 _ o5 _ N => ?_
    have hits : ∀ p ∈ [(I + 4, o1), (I + 2, o2), (I + 3, o3), (I, o4), (I + 1, o5)], I ≤ p.1 := by
      intro p hp
      simp only [List.mem_cons, List.not_mem_nil, or_false] at hp
      rcases hp with rfl | rfl | rfl | rfl | rfl
      · exact Nat.le_add_right _ _
      · exact Nat.le_add_right _ _
      · exact Nat.le_add_right _ _
      · exact Nat.le_refl _
      · exact Nat.le_add_right _ _
    refine wpAny_mono (turn i _ _ T c u h tk [(I + 4, o1), (I + 2, o2), (I + 3, o3), (I, o4), (I + 1, o5)]
      (fun s₃ => UnrEndW h₀ env.locals { s with heap := h, toks := tk } [(I + 4, o1), (I + 2, o2), (I + 3, o3), (I, o4), (I + 1, o5)] (fun m' n' => SubL keep n' ∧ ItemsRest prog w A E h₀ env (.Tuple elts kk pos) body Q s [(I + 4, "zip"), (I + 2, "tuple"), (I + 3, "tuple"), (I, "list_iterator"), (I + 1, "list_iterator")] keep ((zipItems xs ys).drop (i + 1)) m' n') s₃)
      (List.getElem?_eq_getElem h1) (List.getElem?_eq_getElem h2) hp ha hits hT (kst_self F hk) N ?_) (fun _ s₂ q => wpAny_mono q (fun f s₃ r => ?_) fun _ _ x => x) fun _ _ x => x
    · intro c' u' h' tk' news' hp' ha' F' hk' N' hs'
      refine ⟨h', tk', u', Led c', rfl, F', News.sub N' hs', fun p hp q hq e => ?_, hkeep c', zip_rest ps Led P ad hkeep hI turn done n (i + 1) c' u' (by lia) hp' ha' hk'⟩
      have h3 := hI p.1 (ha' ▸ List.mem_map.mpr ⟨p, hp, rfl⟩)
      have h4 := hits q hq
      rw [e] at h3
      exact Nat.lt_irrefl _ (Nat.lt_of_lt_of_le h3 h4)
    · cases f with
      | ret v => exact r
      | brk => exact r
      | next => exact r
      | cont => exact r
theorem zip_st {σ : Type} {elts : List Expr} {kk : Nat} {pos : Pos} {body : List Stmt} {xs ys : List Value} {l1 l2 : Addr} {n1 n2 : Nat} {m₀ : Str → Option Value} {news : List (Addr × Obj)}
    (ps : σ → List (Str × Value)) (Led : σ → List (Addr × Obj)) (P : Nat → σ → Prop) (c₀ : σ)
    (hh : A.handled = none) (F : Fr h₀ env.locals s.heap m₀) (N : News h₀ env.locals s.heap news) (hl1 : ∀ c, (l1, listOf xs.toArray n1) ∈ Led c) (hl2 : ∀ c, (l2, listOf ys.toArray n2) ∈ Led c) (hN : ∀ p ∈ Led c₀, p ∈ news) (hk : ∀ p ∈ ps c₀, m₀ p.1 = some p.2) (hp : P 0 c₀)
    (turn : ∀ i x y T (c : σ) (u : Str → Option Value) h tk its (Qn : Shared → Prop), xs[i]? = some x → ys[i]? = some y → P i c → (Led c).map (·.1) = (Led c₀).map (·.1) → (∀ p ∈ its, ∀ a ∈ (Led c₀).map (·.1), a < p.1) → IsTup h T #[x, y] →
      Fr h₀ env.locals h (kstB u (ps c)) → News h₀ env.locals h (its ++ Led c) →
      (∀ (c' : σ) (u' : Str → Option Value) h' tk' news', P (i + 1) c' → (Led c').map (·.1) = (Led c₀).map (·.1) → Fr h₀ env.locals h' u' → (∀ p ∈ ps c', u' p.1 = some p.2) → News h₀ env.locals h' news' → (∀ p ∈ its ++ Led c', p ∈ news') → Qn { s with heap := h', toks := tk' }) →
      wpAny (model prog w) A (assign (.Tuple elts kk pos) env (.ref T)) (fun _ s₂ => wpAny (model prog w) A (execs body env) (FlowPost Q Qn) E s₂) E { s with heap := h, toks := tk })
    (done : ∀ (c : σ) (u : Str → Option Value) h tk, P (min xs.length ys.length) c → Fr h₀ env.locals h (kstB u (ps c)) → News h₀ env.locals h (Led c) → Q .next { s with heap := h, toks := tk }) :
    wpAny (model prog w) A (call (.type "zip") [.ref l1, .ref l2]) (fun xv s₁ => wpAny (model prog w) A (pyIter xv) (fun it s₂ => TurnsAt prog w A h₀ env (.Tuple elts kk pos) body Q E it s₂) E s₁) E s := by
  refine ktu_zip hh F (News.sub N hN) (hl1 c₀) rfl rfl (hl2 c₀) rfl rfl fun I hI => ?_
  have h0 := zip_rest (prog := prog) (w := w) (A := A) (E := E) (Q := Q) (s := s) (env := env) (h₀ := h₀) (elts := elts) (kk := kk) (pos := pos) (body := body) (xs := xs) (ys := ys) (I := I) (keep := [(l1, listOf xs.toArray n1), (l2, listOf ys.toArray n2)]) ps Led P ((Led c₀).map (·.1)) (fun c => ⟨hl1 c, hl2 c, trivial⟩) (fun a ha => by
      obtain ⟨p, hp, rfl⟩ := List.mem_map.mp ha
      exact hI p hp) (fun i x y T c u h tk its Qn a b d e f => turn i x y T c u h tk its Qn a b d e fun p hp a' ha => by
        obtain ⟨q, hq, rfl⟩ := List.mem_map.mp ha
        exact Nat.lt_of_lt_of_le (hI q hq) (f p hp)) done (min xs.length ys.length) 0 c₀ m₀ (by lia) hp rfl hk
  rwa [List.drop_zero] at h0
end
section
variable {prog : Program} {w : World} {A : Around} {E : Value → Shared → Prop} {s : Shared} {h₀ : Heap} {L l : Addr} {m : Str → Option Value} {news news' : List (Addr × Obj)} {n : Nat}
theorem nats_at {vs : List Value} {nl : List Nat} (h : IntsAre vs (nl.map fun (x : Nat) => (x : Int))) {j : Nat} {v : Value} (hv : vs[j]? = some v) : ∃ t, v = .int ((nl.getD j 0 : Nat) : Int) t := by
  obtain ⟨k, t, e, hk⟩ := h.at j v hv
  rw [List.getElem?_map] at hk
  cases hn : nl[j]? with
  | none => rw [hn] at hk; cases hk
  | some a =>
    rw [hn] at hk
    refine ⟨t, ?_⟩
    rw [e, List.getD_eq_getElem?_getD, hn, ← Option.some.inj hk]; rfl
theorem g_join {vs : List Value} {ss : List Str} {x : Str} {t : Tok} {Q : Value → Shared → Prop} (N : News h₀ L s.heap news) (hm : (l, listOf vs.toArray n) ∈ news) (hS : StrsAre vs ss) (hx : x.length ≤ 16) (hz : (ss.map (·.length)).sum + ss.length ≤ 1000000)
    (h : ∀ t' k, Q (.str (Txt.join x ss) t') { s with toks := k }) : wpAny (model prog w) A (call (.builtin "str.join") [.str x t, .ref l]) Q E s :=
  join_listW (isList_led N hm) hS hx (by lia) h
theorem sum_le {ss : List Str} {b : Nat} (h : ∀ x ∈ ss, x.length ≤ b) : (ss.map (·.length)).sum ≤ b * ss.length := by
  induction ss with
  | nil => exact Nat.zero_le _
  | cons x r ih =>
    have h1 := h x (.head _)
    have h2 := ih fun y hy => h y (.tail _ hy)
    rw [List.map_cons, List.sum_cons, List.length_cons, Nat.mul_succ]; lia
theorem upd_left {D : Addr} {o o' : Obj} : ∀ {its l l' : List (Addr × Obj)}, (∀ p ∈ its, p.1 ≠ D) → Upd D o o' l l' → Upd D o o' (its ++ l) (its ++ l')
  | [], _, _, _, U => U
  | _ :: _, _, _, h, U => .tail (h _ (.head _)) (upd_left (fun p hp => h p (.tail _ hp)) U)
theorem empty_str : Str.ofString "" = Str.empty := by decide +kernel
theorem flat_len {b : Nat} : ∀ {ls : List (List Nat)}, (∀ l ∈ ls, l.length ≤ b) → ls.flatten.length ≤ b * ls.length
  | [], _ => Nat.zero_le _
  | l :: r, h => by
    have h1 := h l (.head _)
    have h2 := flat_len (ls := r) fun y hy => h y (.tail _ hy)
    rw [List.flatten_cons, List.length_append, List.length_cons, Nat.mul_succ]; lia
theorem g_setvY {vs : List Value} {D : Addr} {k : Nat} {y : Value} {t : Tok} {Q : Unit → Shared → Prop} {newsF : Value → List (Addr × Obj)} (F : Fr h₀ L s.heap m) (N : News h₀ L s.heap news) (U : ∀ y, Upd D (listOf vs.toArray n) (listOf (vs.set k y).toArray n) news (newsF y)) (h1 : k < vs.length) (hz : vs.length ≤ 1000)
    (h : ∀ h' y', y' = y → Fr h₀ L h' m → News h₀ L h' (newsF y') → Q () { s with heap := h' }) :
    wpAny (model prog w) A (setItem (.ref D) (.int (k : Int) t) y) Q E s := g_setv F N (U y) h1 hz fun h' F' N' => h h' y rfl F' N'
end
end
section
open PySem PySem.W PyProof.Rows PySem.Flt
local macro_rules | `(tactic| walk_at "exec For Tuple Call cons nil") => `(tactic| (k_here; (with_reducible rename Fr _ _ _ _ => lF'); k_dflt (refine' For_turns lF' ?_ (by (intro _; rfl)) (by assumption))))
local macro_rules | `(tactic| walk_at "call builtin:str.join") => `(tactic| (k_here; k_dflt (refine' g_join (by k_asm) (by (walk_at "mem")) (by with_reducible assumption) (by decide +kernel) (by with_reducible assumption) ?_); walk_at "ie"))
local macro_rules | `(tactic| walk_at "call ref") => `(tactic| (k_here; (with_reducible show wpAny _ _ (call (Value.ref 87) _) _ _ _); (with_reducible rename Fr _ _ _ _ => kF); k_dflt (refine' c_quote (by assumption) kF (by assumption) (by k_asm) (by assumption) (by rfl) (by ktr_room) (by with_reducible assumption) ?_); walk_at "ie"))
local macro_rules | `(tactic| walk_at "setItem ref int") => `(tactic| ((try dsimp only); refine Halt.mk ?_))
local macro_rules | `(tactic| walk_at "call type:zip") => `(tactic| refine Halt.mk ?_)
local macro_rules | `(tactic| walk_at "subscriptTail Name Name ref int") => `(tactic| ((try dsimp only); k_here; k_dflt (refine' g_item_strs (by k_asm) (by (walk_at "mem")) (by with_reducible assumption) (by lia) (by lia) (by lia) ?_ (by with_unfolding_all rfl)); walk_at "ie"))
local macro_rules | `(tactic| walk_at "call builtin:str.split") => `(tactic| (k_here; k_dflt (refine' KSpl.split1 (by k_asm) (by k_asm) (by decide +kernel) ?_ (by walk_at "szs")); walk_at "ie"))
local macro_rules | `(tactic| walk_at "szs") => `(tactic| (rw [sizeLine_eq]; lia))
local macro_rules | `(tactic| walk_at "eval ListComp Subscript cons") => `(tactic| (k_here; k_dflt (refine' LCg.ListComp_U (by k_asm) (by with_unfolding_all rfl) (by decide) (by rfl) (by decide) (by rfl) ?q6 (by (intro _; rfl))); (try dsimp only)))
local macro_rules | `(tactic| walk_at "execs cons") => `(tactic| ((with_reducible show wpAny _ _ (execs (Stmt.For _ _ _ _ _ :: _) _) _ _ _); refine Halt.mk ?_))
section
variable {w : World} {mean : ExcName → Option Value} {mg mb : Str → Option Value} {dp un : Nat} {gd : Option (List Code)} {cn : Str} {cs : Scope} {a : Addr} {ccd : Value} {cl : List (Str × Addr)} {outer : List Env} {A₀ : Around} {base h₀ : Heap} {L : Addr} {m : Str → Option Value} {news : List (Addr × Obj)} {s : Shared} {Q : Flow → Shared → Prop} {E : Value → Shared → Prop}
set_option maxRecDepth 100000
set_option maxHeartbeats 8000000

theorem mail_len {bm : Nat → List Nat × List Nat} (hbm : ∀ k, k < 5 → Clean (bm k).1 ∧ IsE (bm k).2 ∧ (bm k).1.getD 0 0 = 46 ∧ (bm k).1.length ≤ 8) {nl : List Nat} (h5 : ∀ k ∈ nl, k < 5) {x : Str} (h : tl x ∈ nl.map fun k => (bm k).1 ++ (bm k).2) : x.length ≤ 12 := by
  obtain ⟨k, hk, e⟩ := List.mem_map.mp h
  obtain ⟨_, h2, _, h4⟩ := hbm k (h5 k hk)
  rw [← tl_len, ← e, List.length_append]
  rcases h2 with h | h | h <;> rw [h] <;> simp <;> lia
def bmAt (bm : Nat → List Nat × List Nat) (nl : List Nat) (i k : Nat) : List Nat × List Nat := if k ∈ nl.take i then (46 :: (bm k).1, [13, 10]) else bm k
theorem bmAt_set {bm : Nat → List Nat × List Nat} {nl : List Nat} {i : Nat} (hi : i < nl.length) (hk : nl.getD i 0 < 5) : ((List.range 5).map fun k => (bmAt bm nl i k).1 ++ (bmAt bm nl i k).2).set (nl.getD i 0) ((46 :: (bm (nl.getD i 0)).1) ++ tl (Str.ofString "\x0d\n")) = (List.range 5).map fun k => (bmAt bm nl (i + 1) k).1 ++ (bmAt bm nl (i + 1) k).2 := by
  have ec : tl (Str.ofString "\x0d\n") = [13, 10] := by decide +kernel
  rw [ec]
  have et : nl.take (i + 1) = nl.take i ++ [nl.getD i 0] := take_snoc hi
  apply List.ext_getElem?
  intro j
  rw [List.getElem?_set, List.getElem?_map, List.getElem?_map]
  split
  · rename_i e
    subst e
    rw [if_pos (by rw [List.length_map, List.length_range]; exact hk), List.getElem?_range hk]
    have h1 : bmAt bm nl (i + 1) (nl.getD i 0) = (46 :: (bm (nl.getD i 0)).1, [13, 10]) := by unfold bmAt; rw [if_pos (by rw [et]; simp)]
    show some _ = some ((bmAt bm nl (i + 1) (nl.getD i 0)).1 ++ (bmAt bm nl (i + 1) (nl.getD i 0)).2)
    rw [h1]
  · rename_i hne
    have h1 : bmAt bm nl (i + 1) j = bmAt bm nl i j := by
      unfold bmAt
      rw [et]
      by_cases q : j ∈ nl.take i
      · rw [if_pos q, if_pos (List.mem_append_left _ q)]
      · rw [if_neg q, if_neg (by intro hm; rcases List.mem_append.mp hm with h | h; exact q h; exact hne (List.mem_singleton.mp h).symm)]
    by_cases hj : j < 5
    · rw [List.getElem?_range hj]
      show some ((bmAt bm nl i j).1 ++ (bmAt bm nl i j).2) = some ((bmAt bm nl (i + 1) j).1 ++ (bmAt bm nl (i + 1) j).2)
      rw [h1]
    · rw [List.getElem?_eq_none (by rw [List.length_range]; lia)]; rfl
theorem cps_tl (x : Str) : (tl x).length = x.cps.size := by simp [tl]
theorem seg_t4 {S2 W WD TT NA M : Addr} {nv mv : List Value} {n1 k2 st pa tn : Nat} {t1 t2 t3 : Tok} {nl : List Nat} {ms : List Str} {oM : Obj} {rest : List (Addr × Obj)} {bm : Nat → List Nat × List Nat} (B : Below A₀ base outer h₀) (F : Fr h₀ L s.heap m) (X : (Mine.hd.heap_39 w.params).In h₀) (N : News h₀ L s.heap ((NA, listOf (List.toArray nv) n1) :: (M, listOf (List.toArray mv) k2) :: (L + 1 + 1, oM) :: rest)) (T : Top Mine.hd.view_39 looseL mean mg mb h₀) (hd : dp + 40 < recursionLimit) (hE : PassesOwn (model Challenge.rw_sc0061_01.row.prog w) (ktrTop dp un gd (Str.ofString "law") lawScope L a ccd [(Str.ofString "mails", L + 1 + 1), (Str.ofString "ends", L + 1)] outer) (envX (Str.ofString "law") lawScope L a ccd [(Str.ofString "mails", L + 1 + 1), (Str.ofString "ends", L + 1)]) E) (va0 : m (Str.ofString "wishes") = some (.ref W)) (va1 : m (Str.ofString "turns") = some (.int (tn : Int) t1)) (va2 : m (Str.ofString "start") = some (.int (st : Int) t2)) (va3 : m (Str.ofString "part") = some (.int ((pa + 1 : Nat) : Int) t3)) (va4 : m (Str.ofString "words") = some (.ref WD)) (va5 : m (Str.ofString "shelf") = some (.ref S2)) (va6 : m (Str.ofString "told") = some (.ref TT)) (va7 : m (Str.ofString "names") = some (.ref NA))
    (hM : oM.data = .cell (some (.ref M))) (hI : IntsAre nv (nl.map fun (x : Nat) => (x : Int))) (hnd : nl.Nodup) (hn5 : ∀ k ∈ nl, k < 5) (hl5 : nl.length ≤ 5) (hS : StrsAre mv ms) (hms : ms.map tl = (List.range 5).map fun k => (bm k).1 ++ (bm k).2)
    (hbm : ∀ k, k < 5 → Clean (bm k).1 ∧ IsE (bm k).2 ∧ (bm k).1.getD 0 0 = 46 ∧ (bm k).1.length ≤ 8) (hoff : NA ≠ M ∧ M ≠ L + 1 + 1 ∧ ∀ p ∈ rest, p.1 ≠ M)
    (hQ : ∀ h' tk m' mv' ms', Fr h₀ L h' m' → m' (Str.ofString "wishes") = some (.ref W) → m' (Str.ofString "turns") = some (.int (tn : Int) t1) → m' (Str.ofString "start") = some (.int (st : Int) t2) → m' (Str.ofString "part") = some (.int ((pa + 1 : Nat) : Int) t3) → m' (Str.ofString "words") = some (.ref WD) → m' (Str.ofString "shelf") = some (.ref S2) → m' (Str.ofString "told") = some (.ref TT) → News h₀ L h' ((M, listOf (List.toArray mv') k2) :: (L + 1 + 1, oM) :: rest) → StrsAre mv' ms' → ms'.map tl = ((List.range 5).map fun k => (bmAt bm nl nl.length k).1 ++ (bmAt bm nl nl.length k).2) → Q .next { s with heap := h', toks := tk })
    : wpAny (model Challenge.rw_sc0061_01.row.prog w) (ktrTop dp un gd (Str.ofString "law") lawScope L a ccd [(Str.ofString "mails", L + 1 + 1), (Str.ofString "ends", L + 1)] outer) (execs (turnBody.drop 14) (envX (Str.ofString "law") lawScope L a ccd [(Str.ofString "mails", L + 1 + 1), (Str.ofString "ends", L + 1)])) Q E s := by
  have F1 := kst_self F (ps := [(Str.ofString "wishes", .ref W), (Str.ofString "turns", .int (tn : Int) t1), (Str.ofString "start", .int (st : Int) t2), (Str.ofString "part", .int ((pa + 1 : Nat) : Int) t3), (Str.ofString "words", .ref WD), (Str.ofString "shelf", .ref S2), (Str.ofString "told", .ref TT), (Str.ofString "names", .ref NA)]) (all_cons va0 (all_cons va1 (all_cons va2 (all_cons va3 (all_cons va4 (all_cons va5 (all_cons va6 (all_cons va7 all_nil))))))))
  clear F
  have hm5 : ms.length = 5 := by have := congrArg List.length hms; rwa [List.length_map, List.length_map, List.length_range] at this
  have hvl : nv.length = nl.length := by rw [hI.length, List.length_map]
  revert X
  k_fill
  intro X
  conv in (execs _ _) => (arg 1; whnf)
  conv in (envX _ _ _ _ _ _) => (arg 2; whnf)
  walk_at "go"
  refine Halt.out ?_
  (try dsimp only)
  rename Fr _ _ _ _ => Fc1
  rename News _ _ _ _ => Nc1
  refine compL_st (σ := Unit) (vs := nv) (k := n1) (Led := fun _ => _) (P := fun j ys _ => ∃ ss, StrsAre ys ss ∧ ss.map tl = (nl.take j).map fun k => (bm k).1 ++ (bm k).2) () rfl Fc1 Nc1 (fun _ => by exact .head _) (by lia) ⟨[], .nil, rfl⟩ ?tc1 ?fc1
  case tc1 =>
    rintro g j v ys c9 I9 oI9 C9 oC9 D9 m9 h9 tk9 E9 Qe hj hv ⟨ss, hS8, hT8⟩ hNs hx F9 N9 hoff9 hne9 hQe
    obtain ⟨t9, rfl⟩ := nats_at hI hv
    have hjn : j < nl.length := by lia
    have hk9 : nl.getD j 0 < 5 := by
      rw [List.getD_eq_getElem?_getD, List.getElem?_eq_getElem hjn]; exact hn5 _ (List.getElem_mem hjn)
    dsimp only at N9
    walk_at "go"
    refine hQe _ () _ _ ⟨ss ++ [_], strs_snoc hS8, ?_⟩ (by assumption) (by assumption) hoff9
    rw [List.map_append, hT8, take_snoc (d := 0) hjn, List.map_append, List.map_singleton, List.map_singleton, Int.toNat_natCast, tl_getD _ (by lia), hms, List.getD_eq_getElem?_getD, List.getElem?_map, List.getElem?_range hk9]
    rfl
  case fc1 =>
  rintro yv1 c9 DC1 h9 tk9 ⟨jm1, hJ1, hT1⟩ F9 N9 hoff9
  dsimp only at N9 hoff9 ⊢
  rw [List.take_of_length_le (by lia)] at hT1
  have hq1 : ∀ x ∈ jm1, x.length ≤ 12 := fun x hx => mail_len hbm hn5 (by rw [← hT1]; exact List.mem_map.mpr ⟨x, hx, rfl⟩)
  have hjl1 : jm1.length = nl.length := by have := congrArg List.length hT1; rwa [List.length_map, List.length_map] at this
  have hz1 : (jm1.map (·.length)).sum + jm1.length ≤ 1000000 := by have := sum_le hq1; lia
  have hz2 : (Txt.join (Str.ofString "") jm1).cps.size ≤ 400 := by
    rw [empty_str, ← cps_tl, tl_join]
    have := flat_len (b := 12) (ls := jm1.map tl) fun l hl => by
      obtain ⟨x, hx, rfl⟩ := List.mem_map.mp hl
      rw [tl_len]; exact hq1 x hx
    rw [List.length_map] at this
    lia
  walk_at "go"
  refine Halt.out ?_
  rename tl _ = dots true _ => er
  rename Str => r
  have hr : tl r = body (nl.map fun k => 46 :: (bm k).1) := by
    rw [er, empty_str, tl_join, hT1]
    have e1 : (nl.map fun k => (bm k).1 ++ (bm k).2).flatten = mailsT (nl.map bm) := by unfold mailsT; rw [List.map_map]; rfl
    rw [e1, crlf_mails fun p hp => by
      obtain ⟨k, hk, rfl⟩ := List.mem_map.mp hp
      obtain ⟨a1, a2, a3, _⟩ := hbm k (hn5 k hk)
      exact ⟨a1, a2, a3⟩, dots_body fun l hl => by
      obtain ⟨p, hp, rfl⟩ := List.mem_map.mp hl
      obtain ⟨k, hk, rfl⟩ := List.mem_map.mp hp
      obtain ⟨a1, a2, a3, _⟩ := hbm k (hn5 k hk)
      exact ⟨a1, a3⟩, List.map_map, List.map_map]; rfl
  have hlen9 : ∀ k ∈ nl, (46 :: (bm k).1).length ≤ 9 := fun k hk => by
    obtain ⟨_, _, _, a4⟩ := hbm k (hn5 k hk)
    rw [List.length_cons]; lia
  have hrl : r.length ≤ 100 := by
    rw [← tl_len, hr]
    unfold body
    have := flat_len (b := 11) (ls := (nl.map fun k => 46 :: (bm k).1).map fun l => l ++ [13, 10]) fun l hl => by
      obtain ⟨l', hl', rfl⟩ := List.mem_map.mp hl
      obtain ⟨k, hk, rfl⟩ := List.mem_map.mp hl'
      have := hlen9 k hk
      rw [List.length_append]; simp only [List.length_cons, List.length_nil] at this ⊢; lia
    rw [List.length_map, List.length_map] at this
    lia
  refine wpAny_execs_cons ?_
  walk_at "go"
  refine Halt.out ?_
  rename_i DP lp _ _ esp hPS F5 N5 l5
  have hps : (lp.map (·.1)).map tl = (nl.map fun k => 46 :: (bm k).1) ++ [[]] := by
    rw [esp]
    exact split_lines (by decide +kernel) hr fun l hl => by
      obtain ⟨k, hk, rfl⟩ := List.mem_map.mp hl
      obtain ⟨a1, a2, a3, _⟩ := hbm k (hn5 k hk)
      intro c hc
      rcases List.mem_cons.mp hc with rfl | hc
      · decide
      · exact a1 c hc
  generalize hPp : lp.map (·.1) = pl at hps hPS
  generalize strValues lp = pv at hPS N5
  have hpl : pl.length = nl.length + 1 := by have := congrArg List.length hps; rwa [List.length_map, List.length_append, List.length_map] at this
  have hpv : pv.length = nl.length + 1 := by rw [hPS.length, hpl]
  have hDM : M < DP := l5 _ (.tail _ (.tail _ (.head _)))
  have hoffM : ∀ p ∈ (L + 1 + 1, oM) :: rest, p.1 ≠ M := fun p hp => by
    rcases List.mem_cons.mp hp with rfl | hp
    · exact hoff.2.1.symm
    · exact hoff.2.2 p hp
  obtain ⟨tS, eS⟩ := fr_str F5 (Str.ofString "sent") r rfl
  refine zip_st (l1 := NA) (l2 := DP) (xs := nv) (ys := pv) (n1 := n1) (n2 := 0) (σ := List Value × List Str) (fun _ => [(Str.ofString "wishes", .ref W), (Str.ofString "turns", .int (tn : Int) t1), (Str.ofString "start", .int (st : Int) t2), (Str.ofString "part", .int ((pa + 1 : Nat) : Int) t3), (Str.ofString "words", .ref WD), (Str.ofString "shelf", .ref S2), (Str.ofString "told", .ref TT), (Str.ofString "names", .ref NA), (Str.ofString "sent", .str r tS)])
    (fun c => (DP, listOf (List.toArray pv) 0) :: (NA, listOf (List.toArray nv) n1) :: (M, listOf (List.toArray c.1) k2) :: (L + 1 + 1, oM) :: rest)
    (fun i c => StrsAre c.1 c.2 ∧ c.2.map tl = ((List.range 5).map fun k => (bmAt bm nl i k).1 ++ (bmAt bm nl i k).2)) (mv, ms) rfl F5 N5 (fun _ => .tail _ (.head _)) (fun _ => .head _) ?hN (all_cons rfl (all_cons rfl (all_cons rfl (all_cons rfl (all_cons rfl (all_cons rfl (all_cons rfl (all_cons rfl (all_cons eS all_nil))))))))) ⟨hS, by rw [hms]; simp [bmAt]⟩ ?turn ?done
  case hN =>
    intro p hp
    rcases List.mem_cons.mp hp with rfl | hp
    · exact .head _
    · exact .tail _ (.tail _ hp)
  case done =>
    (try clear F5); (try clear N5)
    rintro ⟨mv3, ms3⟩ u h tk ⟨p1, p2⟩ F3 N3
    dsimp only at p1 p2 F3 N3
    have hmin : min nv.length pv.length = nl.length := by lia
    rw [hmin] at p2
    have hm3 : ms3.length = 5 := by have := congrArg List.length p2; rwa [List.length_map, List.length_map, List.length_range] at this
    (try dsimp only); (try k_fold)
    walk_at "go"
    refine Halt.out ?_
    (try dsimp only)
    rename Fr _ _ _ _ => Fc2
    rename News _ _ _ _ => Nc2
    refine compL_st (σ := Unit) (vs := nv) (k := n1) (Led := fun _ => _) (P := fun j ys _ => ∃ ss, StrsAre ys ss ∧ ss.map tl = (nl.take j).map fun k => (bmAt bm nl nl.length k).1 ++ (bmAt bm nl nl.length k).2) () rfl Fc2 Nc2 (fun _ => by exact .tail _ (.head _)) (by lia) ⟨[], .nil, rfl⟩ ?tc2 ?fc2
    case tc2 =>
      rintro g j v ys c9 I9 oI9 C9 oC9 D9 m9 h9 tk9 E9 Qe hj hv ⟨ss, hS8, hT8⟩ hNs hx F9 N9 hoff9 hne9 hQe
      obtain ⟨t9, rfl⟩ := nats_at hI hv
      have hjn : j < nl.length := by lia
      have hk9 : nl.getD j 0 < 5 := by
        rw [List.getD_eq_getElem?_getD, List.getElem?_eq_getElem hjn]; exact hn5 _ (List.getElem_mem hjn)
      dsimp only at N9
      walk_at "go"
      refine hQe _ () _ _ ⟨ss ++ [_], strs_snoc hS8, ?_⟩ (by assumption) (by assumption) hoff9
      rw [List.map_append, hT8, take_snoc (d := 0) hjn, List.map_append, List.map_singleton, List.map_singleton, Int.toNat_natCast, tl_getD _ (by lia), p2, List.getD_eq_getElem?_getD, List.getElem?_map, List.getElem?_range hk9]
      rfl
    case fc2 =>
    rintro yv2 c9 DC2 h9 tk9 ⟨jm2, hJ2, hT2⟩ F9 N9 hoff9
    dsimp only at N9 hoff9 ⊢
    rw [List.take_of_length_le (by lia)] at hT2
    have hat : ∀ k ∈ nl, bmAt bm nl nl.length k = (46 :: (bm k).1, [13, 10]) := fun k hk => by unfold bmAt; rw [List.take_length, if_pos hk]
    have hjf : (jm2.map tl) = (nl.map fun k => 46 :: (bm k).1).map fun l => l ++ [13, 10] := by
      rw [hT2, List.map_map]
      exact List.map_congr_left fun k hk => by rw [hat k hk]; rfl
    have hjr : Txt.join (Str.ofString "") jm2 = r := tl_ext (by rw [empty_str, tl_join, hjf, hr]; rfl)
    have hq2 : ∀ x ∈ jm2, x.length ≤ 12 := fun x hx => by
      have hm9 : tl x ∈ (nl.map fun k => 46 :: (bm k).1).map fun l => l ++ [13, 10] := by rw [← hjf]; exact List.mem_map.mpr ⟨x, hx, rfl⟩
      obtain ⟨l', hl', e'⟩ := List.mem_map.mp hm9
      obtain ⟨k, hk, rfl⟩ := List.mem_map.mp hl'
      have := hlen9 k hk
      rw [← tl_len, ← e', List.length_append]; simp only [List.length_cons, List.length_nil] at this ⊢; lia
    have hjl2 : jm2.length = nl.length := by have := congrArg List.length hT2; rwa [List.length_map, List.length_map] at this
    have hz3 : (jm2.map (·.length)).sum + jm2.length ≤ 1000000 := by have := sum_le hq2; lia
    walk_at "go"
    · exfalso
      rename (_ != _) = true => ha
      rw [hjr] at ha
      simp at ha
    · rename Fr _ _ _ _ => F8
      rename News _ _ _ _ => N8
      refine hQ _ _ _ mv3 ms3 F8 rfl rfl rfl rfl rfl rfl rfl (Mine.News.sub N8 fun p hp => ?_) p1 p2
      exact List.mem_cons_of_mem _ (List.mem_cons_of_mem _ (List.mem_cons_of_mem _ hp))
  case turn =>
    (try clear F5); (try clear N5)
    rintro i x y T ⟨mv3, ms3⟩ u h tk its Qn hx hy ⟨p1, p2⟩ had hits hT F3 N3 hQn
    dsimp only at p1 p2 had F3 N3 hQn
    obtain ⟨tx, rfl⟩ := nats_at hI hx
    obtain ⟨zs, ty, rfl, hzs⟩ := hPS.item i y hy
    have hin : i < nl.length := by rw [← hvl]; exact (List.getElem?_eq_some_iff.mp hx).1
    have hk9 : nl.getD i 0 < 5 := by
      rw [List.getD_eq_getElem?_getD, List.getElem?_eq_getElem hin]; exact hn5 _ (List.getElem_mem hin)
    have hz9 : tl zs = 46 :: (bm (nl.getD i 0)).1 := by
      have h1 : ((nl.map fun k => 46 :: (bm k).1) ++ [[]])[i]? = some (tl zs) := by rw [← hps, List.getElem?_map, hzs]; rfl
      rw [List.getElem?_append_left (by rw [List.length_map]; exact hin), List.getElem?_map, List.getElem?_eq_getElem hin] at h1
      rw [← Option.some.inj h1, List.getD_eq_getElem?_getD, List.getElem?_eq_getElem hin]; rfl
    have hzl : zs.length ≤ 9 := by
      rw [← tl_len, hz9]
      refine hlen9 _ ?_
      rw [List.getD_eq_getElem?_getD, List.getElem?_eq_getElem hin]; exact List.getElem_mem hin
    have hm3 : ms3.length = 5 := by have := congrArg List.length p2; rwa [List.length_map, List.length_map, List.length_range] at this
    (try dsimp only); (try k_fold)
    walk_at "go"
    refine Halt.out ?_
    rename Fr _ _ _ _ => F6
    rename News _ _ _ _ => N6
    have hitM : ∀ p ∈ its, p.1 ≠ M := fun p hp => Nat.ne_of_gt (hits p hp M (List.mem_map.mpr ⟨(M, listOf (List.toArray mv) k2), .tail _ (.tail _ (.head _)), rfl⟩))
    have hmvl : mv3.length = 5 := by rw [p1.length, hm3]
    refine g_setvY (newsF := fun y => its ++ (DP, listOf (List.toArray pv) 0) :: (NA, listOf (List.toArray nv) n1) :: (M, listOf (List.toArray (mv3.set (nl.getD i 0) y)) k2) :: (L + 1 + 1, oM) :: rest) F6 N6 (fun y => upd_left hitM (.tail (Nat.ne_of_gt hDM) (.tail hoff.1 (.head hoffM)))) (by lia) (by lia) ?_
    intro h7 y9 hy9 F7 N7
    walk_at "go"
    refine Halt.out ?_
    show Qn _
    rename Fr _ _ _ _ => F8
    refine hQn (mv3.set (nl.getD i 0) y9, ms3.set (nl.getD i 0) (zs ++ Str.ofString "\x0d\n")) _ _ _ _ ⟨by rw [hy9]; exact strs_set _ _ _ p1, ?_⟩ rfl F8 (all_cons rfl (all_cons rfl (all_cons rfl (all_cons rfl (all_cons rfl (all_cons rfl (all_cons rfl (all_cons rfl (all_cons rfl all_nil))))))))) N7 (fun _ h => h)
    rw [List.map_set, p2, tl_app, hz9]
    exact bmAt_set hin hk9
end
end
section
open PySem PySem.W PyProof.Rows
/-! links counted -/
abbrev Gr := Nat → Nat → Bool
def deg (G : Gr) (k : Nat) : Nat := (List.range 5).countP (G k)
theorem count_add {f : Nat → Bool} {a : Nat} : ∀ {l : List Nat}, l.Nodup → a ∈ l → f a = false → l.countP (fun j => f j || j == a) = l.countP f + 1
  | [], _, h, _ => nomatch h
  | x :: r, hn, hm, hf => by
    obtain ⟨h1, h2⟩ := List.nodup_cons.mp hn
    rw [List.countP_cons, List.countP_cons]
    rcases List.mem_cons.mp hm with rfl | hm
    · have : r.countP (fun j => f j || j == a) = r.countP f := List.countP_congr fun j hj => by
        have : (j == a) = false := by simpa using fun e : j = a => h1 (e ▸ hj)
        rw [this, Bool.or_false]
      rw [this]; simp [hf]
    · have hx : (x == a) = false := by simpa using fun e : x = a => h1 (e ▸ hm)
      rw [count_add h2 hm hf, hx, Bool.or_false]; lia
theorem count_adds {l : List Nat} (hl : l.Nodup) : ∀ {N : List Nat} {f : Nat → Bool}, N.Nodup → (∀ a ∈ N, a ∈ l) → (∀ a ∈ N, f a = false) → l.countP (fun j => f j || decide (j ∈ N)) = l.countP f + N.length
  | [], f, _, _, _ => by simp
  | a :: r, f, hn, hm, hf => by
    obtain ⟨h1, h2⟩ := List.nodup_cons.mp hn
    have e : (fun j => f j || decide (j ∈ a :: r)) = fun j => (f j || j == a) || decide (j ∈ r) := by
      funext j
      rw [Bool.or_assoc]
      congr 1
      by_cases h : j = a <;> simp [h]
    rw [e, count_adds hl h2 (fun b hb => hm b (.tail _ hb)) (f := fun j => f j || j == a) fun b hb => by
      have : (b == a) = false := by simpa using fun e : b = a => h1 (e ▸ hb)
      rw [hf b (.tail _ hb), this]; rfl, count_add hl (hm a (.head _)) (hf a (.head _)), List.length_cons]; lia
theorem mem_dec {j a : Nat} {r : List Nat} : decide (j ∈ a :: r) = (j == a || decide (j ∈ r)) := by
  by_cases h : j = a <;> simp [h]
theorem nearG_at {nm : Nat} : ∀ {near : List (Nat × Nat)} {G : Gr} {i j : Nat}, nearG G nm near i j = (G i j || (i == nm && decide (j ∈ near.map (·.1))) || (j == nm && decide (i ∈ near.map (·.1))))
  | [], G, i, j => by simp [nearG]
  | q :: r, G, i, j => by
    show nearG (link G nm q.1) nm r i j = _
    rw [nearG_at]
    unfold link
    rw [List.map_cons, mem_dec, mem_dec]
    generalize G i j = g
    generalize (i == nm) = a
    generalize (j == q.1) = b
    generalize (i == q.1) = c
    generalize (j == nm) = d
    generalize decide (j ∈ r.map (·.1)) = x
    generalize decide (i ∈ r.map (·.1)) = y
    cases g <;> cases a <;> cases b <;> cases c <;> cases d <;> cases x <;> cases y <;> rfl
end
section
open PySem PySem.W PyProof.Rows
/-! Havel and Hakimi, on the wishes alone: a finite look -/
def posW (l : List Nat) (w : Nat) : Nat := l.findIdx fun x => decide (w < x)
def insW (l : List Nat) (w : Nat) : List Nat := l.take (posW l w) ++ w :: l.drop (posW l w)
def nearW (l near : List Nat) : List Nat := near.foldl (fun a x => insW a (x - 1)) l
def egP (l : List Nat) : Bool := grT ((l.reverse ++ List.replicate (5 - l.length) 0).map fun (x : Nat) => (x : Int))
def turnOk (l : List Nat) (i : Nat) : Bool :=
  if l.getD i 0 > (l.eraseIdx i).length - posW (l.eraseIdx i) 0 then !egP l
  else egP l == egP (nearW ((l.eraseIdx i).take ((l.eraseIdx i).length - l.getD i 0)) ((l.eraseIdx i).drop ((l.eraseIdx i).length - l.getD i 0)))
def srtL : Nat → Nat → List (List Nat)
  | 0, _ => [[]]
  | n + 1, lo => ((List.range 5).filter fun a => decide (lo ≤ a)).flatMap fun a => (srtL n a).map (a :: ·)
theorem srt_mem : ∀ {l : List Nat} {lo : Nat}, l.Pairwise (· ≤ ·) → (∀ x ∈ l, lo ≤ x ∧ x < 5) → l ∈ srtL l.length lo
  | [], _, _, _ => .head _
  | a :: r, lo, hp, hb => by
    obtain ⟨h1, h2⟩ := List.pairwise_cons.mp hp
    obtain ⟨b1, b2⟩ := hb a (.head _)
    refine List.mem_flatMap.mpr ⟨a, List.mem_filter.mpr ⟨List.mem_range.mpr b2, decide_eq_true b1⟩, List.mem_map.mpr ⟨r, ?_, rfl⟩⟩
    exact srt_mem h2 fun x hx => ⟨h1 x hx, (hb x (.tail _ hx)).2⟩
theorem turns_ok : ∀ n, n ≤ 5 → (srtL n 0).all (fun l => (List.range n).all (turnOk l)) = true := by decide +kernel
theorem turn_ok {l : List Nat} {i : Nat} (hs : l.Pairwise (· ≤ ·)) (hb : ∀ x ∈ l, x < 5) (hl : l.length ≤ 5) (hi : i < l.length) : turnOk l i = true := by
  have h1 := turns_ok l.length hl
  rw [List.all_eq_true] at h1
  have h2 := h1 l (srt_mem hs fun x hx => ⟨Nat.zero_le _, hb x hx⟩)
  rw [List.all_eq_true] at h2
  exact h2 i (List.mem_range.mpr hi)
theorem eg_nil : egP [] = true := by decide +kernel
theorem pos_map {sh : List (Nat × Nat)} {w : Nat} : posP sh w = posW (sh.map (·.2)) w := by
  unfold posP posW
  induction sh with
  | nil => rfl
  | cons q r ih => rw [List.map_cons, List.findIdx_cons, List.findIdx_cons, ih]
theorem ins_map {sh : List (Nat × Nat)} {p : Nat × Nat} : (insP sh p).map (·.2) = insW (sh.map (·.2)) p.2 := by
  unfold insP insW
  rw [List.map_append, List.map_cons, List.map_take, List.map_drop, pos_map]
theorem near_map {sh near : List (Nat × Nat)} : (nearSh sh near).map (·.2) = nearW (sh.map (·.2)) (near.map (·.2)) := by
  unfold nearSh nearW
  induction near generalizing sh with
  | nil => rfl
  | cons q r ih => rw [List.foldl_cons, ih, List.map_cons, List.foldl_cons, ins_map]
end
section
open PySem PySem.W PyProof.Rows
def mailOf (en : Nat → List Nat) (k g : Nat) : List Nat × List Nat := (List.replicate (1 + g) 46 ++ [97 + k], if g > 0 then [13, 10] else en k)
structure Inv (ws : List Nat) (en : Nat → List Nat) (sh : List (Nat × Nat)) (tw : List Nat) (G : Gr) (bm : Nat → List Nat × List Nat) : Prop where
  sort : SortP sh
  bnd : ∀ p ∈ sh, p.1 < 5 ∧ p.2 < 5
  nd : (sh.map (·.1)).Nodup
  tl5 : tw.length = 5
  on : ∀ p ∈ sh, deg G p.1 + p.2 = ws.getD p.1 0
  off : ∀ k, k < 5 → k ∉ sh.map (·.1) → deg G k = ws.getD k 0 ∧ tw.getD k 0 ≤ ws.getD k 0
  sym : ∀ i j, G i j = G j i
  irr : ∀ i, G i i = false
  apart : ∀ a ∈ sh.map (·.1), ∀ b ∈ sh.map (·.1), G a b = false
  mon : ∀ p ∈ sh, bm p.1 = mailOf en p.1 (ws.getD p.1 0 - p.2)
  moff : ∀ k, k < 5 → k ∉ sh.map (·.1) → bm k = mailOf en k (ws.getD k 0 - tw.getD k 0)
  gr : egP (sh.map (·.2)) = egP ((shelfP ws).map (·.2))
theorem erase_perm {α : Type} {l : List α} {i : Nat} {x : α} (h : l[i]? = some x) : l.Perm (x :: l.eraseIdx i) := by
  obtain ⟨hi, e⟩ := List.getElem?_eq_some_iff.mp h
  rw [List.eraseIdx_eq_take_drop_succ]
  have h1 : l = l.take i ++ x :: l.drop (i + 1) := by
    rw [← e, List.getElem_cons_drop, List.take_append_drop]
  conv => lhs; rw [h1]
  exact List.perm_middle
theorem erase_map {α β : Type} {f : α → β} {l : List α} {i : Nat} : (l.map f).eraseIdx i = (l.eraseIdx i).map f := by
  rw [List.eraseIdx_eq_take_drop_succ, List.eraseIdx_eq_take_drop_succ, List.map_append, List.map_take, List.map_drop]
theorem near_perm {sh near : List (Nat × Nat)} : (nearSh sh near).Perm (sh ++ near.map fun q => (q.1, q.2 - 1)) := by
  unfold nearSh
  induction near generalizing sh with
  | nil => rw [List.foldl_nil, List.map_nil, List.append_nil]
  | cons q r ih =>
    rw [List.foldl_cons, List.map_cons]
    refine (ih (sh := insP sh (q.1, q.2 - 1))).trans ?_
    refine (insP_perm.append_right _).trans ?_
    exact (List.perm_middle (a := (q.1, q.2 - 1)) (l₁ := sh) (l₂ := r.map fun q => (q.1, q.2 - 1))).symm
theorem pos_wish {sh : List (Nat × Nat)} {j : Nat} {q : Nat × Nat} (hs : SortP sh) (hj : posP sh 0 ≤ j) (hq : sh[j]? = some q) : 1 ≤ q.2 := by
  obtain ⟨h1, e⟩ := List.getElem?_eq_some_iff.mp hq
  have hlt : posP sh 0 < sh.length := Nat.lt_of_le_of_lt hj h1
  have h2 : 0 < (sh[posP sh 0]).2 := of_decide_eq_true (List.findIdx_getElem (p := fun q : Nat × Nat => decide (0 < q.2)) (xs := sh) (w := hlt))
  rcases Nat.eq_or_lt_of_le hj with e9 | hl
  · have : sh[posP sh 0]? = some q := by rw [e9]; exact hq
    rw [List.getElem?_eq_getElem hlt] at this
    rw [← Option.some.inj this]; exact h2
  · have := List.pairwise_iff_getElem.mp hs _ _ hlt h1 hl
    rw [e] at this; lia
section
variable {ws tw : List Nat} {en : Nat → List Nat} {sh : List (Nat × Nat)} {G : Gr} {bm : Nat → List Nat × List Nat} {i nm wi : Nat}
theorem Inv.refuse (I : Inv ws en sh tw G bm) (h5 : sh.length ≤ 5) (hi : sh[i]? = some (nm, wi)) (hw : wi > (sh.eraseIdx i).length - posP (sh.eraseIdx i) 0) : egP ((shelfP ws).map (·.2)) = false := by
  have hlt := (List.getElem?_eq_some_iff.mp hi).1
  have ht := turn_ok (l := sh.map (·.2)) (i := i) (List.pairwise_map.mpr (show sh.Pairwise (fun p q => p.2 ≤ q.2) from I.sort)) (fun x hx => by obtain ⟨p, hp, rfl⟩ := List.mem_map.mp hx; exact (I.bnd p hp).2) (by rw [List.length_map]; exact h5) (by rw [List.length_map]; exact hlt)
  have hg : (sh.map (·.2)).getD i 0 = wi := by rw [List.getD_eq_getElem?_getD, List.getElem?_map, hi]; rfl
  unfold turnOk at ht
  rw [hg, erase_map, List.length_map, ← pos_map, if_pos hw, Bool.not_eq_true', I.gr] at ht
  exact ht
theorem Inv.turn (I : Inv ws en sh tw G bm) (h5 : sh.length ≤ 5) (hi : sh[i]? = some (nm, wi)) (hw : wi ≤ (sh.eraseIdx i).length - posP (sh.eraseIdx i) 0) :
    Inv ws en (nearSh ((sh.eraseIdx i).take ((sh.eraseIdx i).length - wi)) ((sh.eraseIdx i).drop ((sh.eraseIdx i).length - wi))) (tw.set nm wi) (nearG G nm ((sh.eraseIdx i).drop ((sh.eraseIdx i).length - wi)))
      (bmAt bm (((sh.eraseIdx i).drop ((sh.eraseIdx i).length - wi)).map (·.1)) (((sh.eraseIdx i).drop ((sh.eraseIdx i).length - wi)).map (·.1)).length) := by
  have hlt := (List.getElem?_eq_some_iff.mp hi).1
  have ht := turn_ok (l := sh.map (·.2)) (i := i) (List.pairwise_map.mpr (show sh.Pairwise (fun p q => p.2 ≤ q.2) from I.sort)) (fun x hx => by obtain ⟨p, hp, rfl⟩ := List.mem_map.mp hx; exact (I.bnd p hp).2) (by rw [List.length_map]; exact h5) (by rw [List.length_map]; exact hlt)
  have hg : (sh.map (·.2)).getD i 0 = wi := by rw [List.getD_eq_getElem?_getD, List.getElem?_map, hi]; rfl
  have hper := erase_perm hi
  have hsubl := List.eraseIdx_sublist sh i
  have hmem : (nm, wi) ∈ sh := List.mem_of_getElem? hi
  unfold turnOk at ht
  rw [hg, erase_map, List.length_map, ← pos_map, if_neg (Nat.not_lt.mpr hw), beq_iff_eq, ← List.map_take, ← List.map_drop, ← near_map] at ht
  generalize hR : sh.eraseIdx i = R at *
  have hRs : SortP R := List.Pairwise.sublist hsubl I.sort
  have hRb : ∀ p ∈ R, p.1 < 5 ∧ p.2 < 5 := fun p hp => I.bnd p (hsubl.subset hp)
  have hnd2 : ((nm :: R.map (·.1))).Nodup := (List.Perm.nodup_iff (hper.map fun p : Nat × Nat => p.1)).mp I.nd
  obtain ⟨hnmR, hRn⟩ := List.nodup_cons.mp hnd2
  have hnm5 : nm < 5 := (I.bnd _ hmem).1
  have hpl := pos_le (sh := R) (w := 0)
  have hsplit : R.take (R.length - wi) ++ R.drop (R.length - wi) = R := List.take_append_drop _ _
  have hnl : (R.drop (R.length - wi)).length = wi := by rw [List.length_drop]; lia
  generalize hT : R.take (R.length - wi) = Tk at *
  have hnear1 : ∀ q ∈ R.drop (R.length - wi), 1 ≤ q.2 := fun q hq => by
    obtain ⟨j, hj⟩ := List.mem_iff_getElem?.mp hq
    rw [List.getElem?_drop] at hj
    exact pos_wish hRs (by lia) hj
  generalize hN : R.drop (R.length - wi) = Nr at *
  have hTR : ∀ q ∈ Tk, q ∈ R := fun q hq => by rw [← hsplit]; exact List.mem_append_left _ hq
  have hNR : ∀ q ∈ Nr, q ∈ R := fun q hq => by rw [← hsplit]; exact List.mem_append_right _ hq
  have hRS : ∀ q ∈ R, q ∈ sh := fun q hq => hsubl.subset hq
  have hRn2 : (Tk.map (·.1) ++ Nr.map (·.1)).Nodup := by rw [← List.map_append, hsplit]; exact hRn
  obtain ⟨hTn, hNn, hTN⟩ := List.nodup_append.mp hRn2
  have hnmN : nm ∉ Nr.map (·.1) := fun h => hnmR (by obtain ⟨p, hp, e⟩ := List.mem_map.mp h; exact List.mem_map.mpr ⟨p, hNR p hp, e⟩)
  have hmemS : ∀ q ∈ R, q.1 ∈ sh.map (·.1) := fun q hq => List.mem_map.mpr ⟨q, hRS q hq, rfl⟩
  have hnmS : nm ∈ sh.map (·.1) := List.mem_map.mpr ⟨_, hmem, rfl⟩
  have hP := near_perm (sh := Tk) (near := Nr)
  have hmem' : ∀ p, p ∈ nearSh Tk Nr ↔ p ∈ Tk ∨ ∃ q ∈ Nr, p = (q.1, q.2 - 1) := fun p => by
    rw [hP.mem_iff, List.mem_append, List.mem_map]
    constructor
    · rintro (h | ⟨q, hq, e⟩)
      · exact .inl h
      · exact .inr ⟨q, hq, e.symm⟩
    · rintro (h | ⟨q, hq, e⟩)
      · exact .inl h
      · exact .inr ⟨q, hq, e.symm⟩
  have hnames : ((nearSh Tk Nr).map (·.1)).Perm (R.map (·.1)) := by
    refine (hP.map fun p : Nat × Nat => p.1).trans ?_
    rw [List.map_append, List.map_map, ← hsplit, List.map_append]
    exact List.Perm.refl _
  have hrow1 : ∀ k, k ≠ nm → k ∉ Nr.map (·.1) → nearG G nm Nr k = G k := fun k h1 h2 => by
    funext j
    rw [nearG_at, show (k == nm) = false by simpa using h1, show decide (k ∈ Nr.map (·.1)) = false by simpa using h2]
    simp
  have hrow2 : ∀ k, k ∈ Nr.map (·.1) → nearG G nm Nr k = fun j => G k j || j == nm := fun k h => by
    funext j
    have hk : k ≠ nm := fun e => hnmN (e ▸ h)
    rw [nearG_at, show (k == nm) = false by simpa using hk, show decide (k ∈ Nr.map (·.1)) = true by simpa using h]
    simp
  have hrow3 : nearG G nm Nr nm = fun j => G nm j || decide (j ∈ Nr.map (·.1)) := by
    funext j
    rw [nearG_at, show decide (nm ∈ Nr.map (·.1)) = false by simpa using hnmN]
    simp
  have hr5 : (List.range 5).Nodup := by decide
  have hd2 : ∀ q ∈ Nr, deg (nearG G nm Nr) q.1 = deg G q.1 + 1 := fun q hq => by
    unfold deg
    rw [hrow2 q.1 (List.mem_map.mpr ⟨q, hq, rfl⟩)]
    exact count_add hr5 (List.mem_range.mpr hnm5) (I.apart _ (hmemS q (hNR q hq)) _ hnmS)
  have hd3 : deg (nearG G nm Nr) nm = deg G nm + wi := by
    unfold deg
    rw [hrow3, count_adds hr5 hNn (fun a ha => by obtain ⟨p, hp, rfl⟩ := List.mem_map.mp ha; exact List.mem_range.mpr (hRb p (hNR p hp)).1) (fun a ha => by
      obtain ⟨p, hp, rfl⟩ := List.mem_map.mp ha; exact I.apart _ hnmS _ (hmemS p (hNR p hp))), List.length_map, hnl]
  have htk : (Nr.map (·.1)).take (Nr.map (·.1)).length = Nr.map (·.1) := List.take_length
  have hbN : ∀ q ∈ Nr, bmAt bm (Nr.map (·.1)) (Nr.map (·.1)).length q.1 = (46 :: (bm q.1).1, [13, 10]) := fun q hq => by
    unfold bmAt; rw [htk, if_pos (List.mem_map.mpr ⟨q, hq, rfl⟩)]
  have hbO : ∀ k, k ∉ Nr.map (·.1) → bmAt bm (Nr.map (·.1)) (Nr.map (·.1)).length k = bm k := fun k hk => by
    unfold bmAt; rw [htk, if_neg hk]
  have hTo : ∀ q ∈ Tk, q.1 ≠ nm ∧ q.1 ∉ Nr.map (·.1) := fun q hq => ⟨fun e => hnmR (e ▸ List.mem_map.mpr ⟨q, hTR q hq, rfl⟩), fun h => by
    exact hTN _ (List.mem_map.mpr ⟨q, hq, rfl⟩) _ h rfl⟩
  have honm := I.on _ hmem
  refine ⟨nearSh_sort (by rw [← hT]; exact List.Pairwise.sublist (List.take_sublist _ _) hRs), fun p hp => ?_, (List.Perm.nodup_iff hnames).mpr hRn, by rw [List.length_set]; exact I.tl5, fun p hp => ?_, fun k hk hk2 => ?_, fun i j => ?_, fun j => ?_, fun a ha b hb => ?_, fun p hp => ?_, fun k hk hk2 => ?_, by rw [← ht, I.gr]⟩
  · rcases (hmem' p).mp hp with h | ⟨q, hq, rfl⟩
    · exact hRb p (hTR p h)
    · have := hRb q (hNR q hq)
      exact ⟨this.1, by have := this.2; show q.2 - 1 < 5; lia⟩
  · rcases (hmem' p).mp hp with h | ⟨q, hq, rfl⟩
    · unfold deg
      rw [hrow1 p.1 (hTo p h).1 (hTo p h).2]
      exact I.on p (hRS p (hTR p h))
    · show deg (nearG G nm Nr) q.1 + (q.2 - 1) = _
      rw [hd2 q hq]
      have h1 := I.on q (hRS q (hNR q hq))
      have h2 := hnear1 q hq
      show _ = ws.getD q.1 0
      lia
  · rw [hnames.mem_iff] at hk2
    by_cases e : k = nm
    · subst e
      rw [hd3]
      have hset : (tw.set k wi).getD k 0 = wi := by rw [List.getD_eq_getElem?_getD, List.getElem?_set, if_pos rfl, if_pos (by rw [I.tl5]; exact hk)]; rfl
      rw [hset]
      have h9 : deg G k + wi = ws.getD k 0 := honm
      exact ⟨h9, by lia⟩
    · have hks : k ∉ sh.map (·.1) := fun h => by
        have := (hper.map fun p : Nat × Nat => p.1).mem_iff.mp h
        rcases List.mem_cons.mp this with q | q
        · exact e q
        · exact hk2 q
      have hkN : k ∉ Nr.map (·.1) := fun h => hk2 (by obtain ⟨p, hp, e⟩ := List.mem_map.mp h; exact List.mem_map.mpr ⟨p, hNR p hp, e⟩)
      have hset : (tw.set nm wi).getD k 0 = tw.getD k 0 := by rw [List.getD_eq_getElem?_getD, List.getD_eq_getElem?_getD, List.getElem?_set_ne (fun q => e q.symm)]
      unfold deg
      rw [hrow1 k e hkN, hset]
      exact I.off k hk hks
  · rw [nearG_at, nearG_at, I.sym i j]
    generalize (i == nm && decide (j ∈ Nr.map (·.1))) = x
    generalize (j == nm && decide (i ∈ Nr.map (·.1))) = y
    cases G j i <;> cases x <;> cases y <;> rfl
  · rw [nearG_at, I.irr]
    by_cases e : j = nm
    · subst e; simp [hnmN]
    · simp [e]
  · rw [hnames.mem_iff] at ha hb
    have ha' : a ≠ nm := fun e => hnmR (e ▸ ha)
    have hb' : b ≠ nm := fun e => hnmR (e ▸ hb)
    rw [nearG_at]
    obtain ⟨p, hp, rfl⟩ := List.mem_map.mp ha
    obtain ⟨q, hq, rfl⟩ := List.mem_map.mp hb
    rw [I.apart _ (hmemS p hp) _ (hmemS q hq)]
    simp [ha', hb']
  · rcases (hmem' p).mp hp with h | ⟨q, hq, rfl⟩
    · rw [hbO p.1 (hTo p h).2]
      exact I.mon p (hRS p (hTR p h))
    · show bmAt bm (Nr.map (·.1)) (Nr.map (·.1)).length q.1 = mailOf en q.1 (ws.getD q.1 0 - (q.2 - 1))
      rw [hbN q hq, I.mon q (hRS q (hNR q hq))]
      have h1 := I.on q (hRS q (hNR q hq))
      have h2 := hnear1 q hq
      have h3 : ws.getD q.1 0 - (q.2 - 1) = (ws.getD q.1 0 - q.2) + 1 := by lia
      rw [h3]
      generalize ws.getD q.1 0 - q.2 = g
      show (46 :: (List.replicate (1 + g) 46 ++ [97 + q.1]), [13, 10]) = (List.replicate (1 + (g + 1)) 46 ++ [97 + q.1], if g + 1 > 0 then [13, 10] else en q.1)
      rw [if_pos (Nat.succ_pos _), show 1 + (g + 1) = (1 + g) + 1 by lia, List.replicate_succ]
      rfl
  · rw [hnames.mem_iff] at hk2
    have hkN : k ∉ Nr.map (·.1) := fun h => hk2 (by obtain ⟨p, hp, e⟩ := List.mem_map.mp h; exact List.mem_map.mpr ⟨p, hNR p hp, e⟩)
    rw [hbO k hkN]
    by_cases e : k = nm
    · subst e
      have hset : (tw.set k wi).getD k 0 = wi := by rw [List.getD_eq_getElem?_getD, List.getElem?_set, if_pos rfl, if_pos (by rw [I.tl5]; exact hk)]; rfl
      rw [hset]
      exact I.mon _ hmem
    · have hks : k ∉ sh.map (·.1) := fun h => by
        have := (hper.map fun p : Nat × Nat => p.1).mem_iff.mp h
        rcases List.mem_cons.mp this with q | q
        · exact e q
        · exact hk2 q
      have hset : (tw.set nm wi).getD k 0 = tw.getD k 0 := by rw [List.getD_eq_getElem?_getD, List.getD_eq_getElem?_getD, List.getElem?_set_ne (fun q => e q.symm)]
      rw [hset]
      exact I.moff k hk hks
end
end
section
open PySem PySem.W PyProof.Rows
section
variable {news : List (Addr × Obj)} {vs : List Value} {sh : List (Nat × Nat)} {st pa : Nat}
theorem Shelf.erase (h : Shelf news vs sh st pa) (i : Nat) : Shelf news (vs.eraseIdx i) (sh.eraseIdx i) st pa := by
  refine ⟨by rw [List.length_eraseIdx, List.length_eraseIdx, h.1], fun p hp => h.2.1 p ((List.eraseIdx_sublist sh i).subset hp), fun j v p hv hp => ?_⟩
  rw [List.getElem?_eraseIdx] at hv hp
  split at hv
  · rename_i q; rw [if_pos q] at hp; exact h.2.2 j v p hv hp
  · rename_i q; rw [if_neg q] at hp; exact h.2.2 (j + 1) v p hv hp
theorem Shelf.take (h : Shelf news vs sh st pa) (k : Nat) : Shelf news (vs.take k) (sh.take k) st pa := by
  refine ⟨by rw [List.length_take, List.length_take, h.1], fun p hp => h.2.1 p (List.mem_of_mem_take hp), fun j v p hv hp => ?_⟩
  rw [List.getElem?_take] at hv hp
  split at hv
  · rename_i q; rw [if_pos q] at hp; exact h.2.2 j v p hv hp
  · cases hv
theorem Shelf.drop (h : Shelf news vs sh st pa) (k : Nat) : Shelf news (vs.drop k) (sh.drop k) st pa := by
  refine ⟨by rw [List.length_drop, List.length_drop, h.1], fun p hp => h.2.1 p (List.mem_of_mem_drop hp), fun j v p hv hp => ?_⟩
  rw [List.getElem?_drop] at hv hp
  exact h.2.2 (k + j) v p hv hp
end
section
variable {ws tw : List Nat} {en : Nat → List Nat} {sh : List (Nat × Nat)} {G : Gr} {bm : Nat → List Nat × List Nat}
theorem Inv.near {i nm wi : Nat} (I : Inv ws en sh tw G bm) (hi : sh[i]? = some (nm, wi)) (hw : wi ≤ (sh.eraseIdx i).length - posP (sh.eraseIdx i) 0) : ∀ q ∈ (sh.eraseIdx i).drop ((sh.eraseIdx i).length - wi), 1 ≤ q.2 ∧ q.1 ≠ nm := by
  intro q hq
  have hper := erase_perm hi
  have hnd2 : ((nm :: (sh.eraseIdx i).map (·.1))).Nodup := (List.Perm.nodup_iff (hper.map fun p : Nat × Nat => p.1)).mp I.nd
  have hpl := pos_le (sh := sh.eraseIdx i) (w := 0)
  refine ⟨?_, fun e => (List.nodup_cons.mp hnd2).1 (e ▸ List.mem_map.mpr ⟨q, List.mem_of_mem_drop hq, rfl⟩)⟩
  obtain ⟨j, hj⟩ := List.mem_iff_getElem?.mp hq
  rw [List.getElem?_drop] at hj
  exact pos_wish (List.Pairwise.sublist (List.eraseIdx_sublist sh i) I.sort) (by lia) hj
theorem Inv.mail (I : Inv ws en sh tw G bm) (hw : ∀ x ∈ ws, x ≤ 4) (h5 : ws.length = 5) {k : Nat} (hk : k < 5) : ∃ g, g ≤ 4 ∧ bm k = mailOf en k g := by
  have hwk : ws.getD k 0 ≤ 4 := by
    rw [List.getD_eq_getElem?_getD, List.getElem?_eq_getElem (by lia)]; exact hw _ (List.getElem_mem _)
  by_cases h : k ∈ sh.map (·.1)
  · obtain ⟨p, hp, rfl⟩ := List.mem_map.mp h
    exact ⟨_, by lia, I.mon p hp⟩
  · exact ⟨_, by lia, I.moff k hk h⟩
theorem mail_facts {k g : Nat} (hk : k < 5) (hg : g ≤ 4) (he : IsE (en k)) : Clean (mailOf en k g).1 ∧ IsE (mailOf en k g).2 ∧ (mailOf en k g).1.getD 0 0 = 46 ∧ (mailOf en k g).1.length ≤ 8 := by
  refine ⟨fun c hc => ?_, ?_, ?_, ?_⟩
  · rcases List.mem_append.mp hc with h | h
    · rw [(List.mem_replicate.mp h).2]; decide
    · rw [List.mem_singleton.mp h]; lia
  · show IsE (if g > 0 then [13, 10] else en k)
    split
    · exact .inr (.inr rfl)
    · exact he
  · show (List.replicate (1 + g) 46 ++ [97 + k]).getD 0 0 = 46
    rw [Nat.add_comm, List.replicate_succ]; rfl
  · show (List.replicate (1 + g) 46 ++ [97 + k]).length ≤ 8
    rw [List.length_append, List.length_replicate]; simp; lia
theorem shelf_perm : (shelfP ws).Perm (ws.zipIdx.map fun p => (p.2, p.1)) := by
  unfold shelfP
  generalize (ws.zipIdx.map fun p => (p.2, p.1)) = l
  have : ∀ (l a : List (Nat × Nat)), (l.foldl insP a).Perm (a ++ l) := by
    intro l
    induction l with
    | nil => intro a; rw [List.append_nil]; exact List.Perm.refl _
    | cons q r ih =>
      intro a
      rw [List.foldl_cons]
      refine (ih _).trans ((insP_perm.append_right r).trans ?_)
      exact (List.perm_middle (a := q) (l₁ := a) (l₂ := r)).symm
  exact this l []
theorem Inv.init (h5 : ws.length = 5) (hw : ∀ x ∈ ws, x ≤ 4) : Inv ws en (shelfP ws) [0, 0, 0, 0, 0] (fun _ _ => false) (fun k => mailOf en k 0) := by
  have hmem : ∀ p ∈ shelfP ws, p.1 < 5 ∧ ws.getD p.1 0 = p.2 ∧ p.2 < 5 := fun p hp => by
    rw [shelf_perm.mem_iff] at hp
    obtain ⟨q, hq, rfl⟩ := List.mem_map.mp hp
    have := List.mem_zipIdx_iff_getElem?.mp hq
    obtain ⟨h1, h2⟩ := List.getElem?_eq_some_iff.mp this
    refine ⟨by show q.2 < 5; lia, by show ws.getD q.2 0 = q.1; rw [List.getD_eq_getElem?_getD, this]; rfl, ?_⟩
    have := hw q.1 (by rw [← h2]; exact List.getElem_mem _)
    show q.1 < 5; lia
  have hnames : ((shelfP ws).map (·.1)).Perm [0, 1, 2, 3, 4] := by
    refine (shelf_perm.map fun p : Nat × Nat => p.1).trans ?_
    match ws, h5 with
    | [a, b, c, d, e], _ => exact List.Perm.refl _
  have hdeg : ∀ k, deg (fun _ _ => false) k = 0 := fun k => by simp [deg]
  refine ⟨shelf_sort, fun p hp => ⟨(hmem p hp).1, (hmem p hp).2.2⟩, (List.Perm.nodup_iff hnames).mpr (by decide), rfl, fun p hp => ?_, fun k hk hk2 => ?_, fun _ _ => rfl, fun _ => rfl, fun _ _ _ _ => rfl, fun p hp => ?_, fun k hk hk2 => ?_, rfl⟩
  · rw [hdeg, (hmem p hp).2.1]; lia
  · exact absurd (hnames.mem_iff.mpr (by match k, hk with | 0, _ => decide | 1, _ => decide | 2, _ => decide | 3, _ => decide | 4, _ => decide)) hk2
  · rw [(hmem p hp).2.1, Nat.sub_self]
  · exact absurd (hnames.mem_iff.mpr (by match k, hk with | 0, _ => decide | 1, _ => decide | 2, _ => decide | 3, _ => decide | 4, _ => decide)) hk2
theorem graph_is (h5 : ws.length = 5) {r : List Int} (hp : r.Perm (ws.map fun (x : Nat) => (x : Int))) (hs : r.Pairwise (· ≥ ·)) : grT r = egP ((shelfP ws).map (·.2)) := by
  have hl : ((shelfP ws).map (·.2)).length = 5 := by rw [List.length_map, shelf_len, h5]
  unfold egP
  rw [hl, Nat.sub_self, List.replicate_zero, List.append_nil]
  congr 1
  refine List.Perm.eq_of_pairwise (le := (· ≥ ·)) (fun a b _ _ h1 h2 => by lia) hs ?_ (hp.trans ?_)
  · rw [List.pairwise_map, List.pairwise_reverse, List.pairwise_map]
    exact List.Pairwise.imp (fun h => by show ((_ : Nat) : Int) ≥ ((_ : Nat) : Int); lia) (shelf_sort (ws := ws))
  · refine List.Perm.map _ ?_
    refine List.Perm.trans ?_ (List.reverse_perm _).symm
    refine List.Perm.trans ?_ (shelf_perm.map fun p : Nat × Nat => p.2).symm
    rw [List.map_map]
    have : (ws.zipIdx.map ((fun p : Nat × Nat => p.2) ∘ fun p => (p.2, p.1))) = ws := by
      show ws.zipIdx.map Prod.fst = ws
      exact List.zipIdx_map_fst 0 ws
    rw [this]
end
end
section
open PySem PySem.W PyProof.Rows PySem.Flt
local macro_rules | `(tactic| walk_at "execs cons") => `(tactic| ((with_reducible show wpAny _ _ (execs (Stmt.If _ _ _ _ :: _) _) _ _ _); refine Halt.mk ?_))
section
variable {w : World} {mean : ExcName → Option Value} {mg mb : Str → Option Value} {dp un : Nat} {gd : Option (List Code)} {cn : Str} {cs : Scope} {a : Addr} {ccd : Value} {cl : List (Str × Addr)} {outer : List Env} {A₀ : Around} {base h₀ : Heap} {L : Addr} {m : Str → Option Value} {news : List (Addr × Obj)} {s : Shared} {Q : Flow → Shared → Prop} {E : Value → Shared → Prop}
set_option maxRecDepth 100000
set_option maxHeartbeats 8000000

/-- the loop's state: the shelf (its list, its content), the told ones, the words, the turns, the mails, the lamps made -/
abbrev St := (Addr × List Value × Nat × List (Nat × Nat)) × (List Value × List Nat) × (List Obj × Gr) × (Nat × Tok) × (List Value × List Str × (Nat → List Nat × List Nat)) × List (Addr × Obj)
theorem sz_eq {i : Nat} (h : i < 5) : (5 : Int) + (i : Int) * -1 = ((5 - i : Nat) : Int) := by lia
theorem one_le_sub {i : Nat} (h : i < 5) : 1 ≤ 5 - i := by lia
theorem cut_sum {l w : Nat} (h : w ≤ l) : min (l - w) l + (l - (l - w)) = l := by lia
theorem seg_loop {S W WD TT M : Addr} {sv tv wv mv : List Value} {sn nT k2 k4 kw st pa tn : Nat} {t1 t2 t3 : Tok} {ws : List Nat} {en : Nat → List Nat} {ra : List Addr} {rc : List Obj} {ms : List Str} {oM : Obj} {bs : List (Addr × Obj)} (B : Below A₀ base outer h₀) (F : Fr h₀ L s.heap m) (X : (Mine.hd.heap_39 w.params).In h₀) (N : News h₀ L s.heap ((S, listOf (List.toArray sv) sn) :: (TT, listOf (List.toArray tv) nT) :: (M, listOf (List.toArray mv) k2) :: (L + 1 + 1, oM) :: (ra.zip rc ++ bs))) (T : Top Mine.hd.view_39 looseL mean mg mb h₀) (hd : dp + 40 < recursionLimit) (hE : PassesOwn (model Challenge.rw_sc0061_01.row.prog w) (ktrTop dp un gd (Str.ofString "law") lawScope L a ccd [(Str.ofString "mails", L + 1 + 1), (Str.ofString "ends", L + 1)] outer) (envX (Str.ofString "law") lawScope L a ccd [(Str.ofString "mails", L + 1 + 1), (Str.ofString "ends", L + 1)]) E) (va0 : m (Str.ofString "wishes") = some (.ref W)) (va1 : m (Str.ofString "turns") = some (.int (tn : Int) t1)) (va2 : m (Str.ofString "start") = some (.int (st : Int) t2)) (va3 : m (Str.ofString "part") = some (.int ((pa + 1 : Nat) : Int) t3)) (va4 : m (Str.ofString "words") = some (.ref WD)) (va5 : m (Str.ofString "shelf") = some (.ref S)) (va6 : m (Str.ofString "told") = some (.ref TT))
    (hun : un < cLine) (hW : (W, listOf (List.toArray wv) k4) ∈ bs) (hIw : IntsAre wv (ws.map fun (x : Nat) => (x : Int))) (h5 : ws.length = 5) (hw4 : ∀ x ∈ ws, x ≤ 4) (hWD : (WD, listOf (List.toArray (ra.map Value.ref)) kw) ∈ bs) (hst : st < 8) (hpa : pa < 4)
    (hSh : Shelf bs sv (shelfP ws) st (pa + 1)) (hTv : IntsAre tv ([0, 0, 0, 0, 0].map fun (x : Nat) => (x : Int))) (hG : Rows rc fun _ _ => false) (hMv : StrsAre mv ms) (hms : ms.map tl = (List.range 5).map fun k => (mailOf en k 0).1 ++ (mailOf en k 0).2) (hen : ∀ k, k < 5 → IsE (en k))
    (hM : oM.data = .cell (some (.ref M))) (hra5 : ra.length = 5) (hnd : ([TT, M, L + 1 + 1] ++ ra).Nodup) (hS1 : S ∉ [TT, M, L + 1 + 1] ++ ra) (hbs : ∀ p ∈ bs, p.1 ∉ [TT, M, L + 1 + 1] ++ ra ∧ p.1 ≠ S)
    (hR : ∀ h' tk m', Fr h₀ L h' m' → Q (.ret (.bool true)) { s with heap := h', toks := tk })
    (hQ : ∀ h' tk m' tv' tw mv' ms' rc' G bm lp, Fr h₀ L h' m' → m' (Str.ofString "wishes") = some (.ref W) → m' (Str.ofString "words") = some (.ref WD) → m' (Str.ofString "told") = some (.ref TT) → News h₀ L h' ((TT, listOf (List.toArray tv') nT) :: (M, listOf (List.toArray mv') k2) :: (L + 1 + 1, oM) :: (ra.zip rc' ++ (lp ++ bs))) →
      IntsAre tv' (tw.map fun (x : Nat) => (x : Int)) → StrsAre mv' ms' → ms'.map tl = ((List.range 5).map fun k => (bm k).1 ++ (bm k).2) → Rows rc' G → Inv ws en [] tw G bm → wpAny (model Challenge.rw_sc0061_01.row.prog w) (ktrTop dp un gd (Str.ofString "law") lawScope L a ccd [(Str.ofString "mails", L + 1 + 1), (Str.ofString "ends", L + 1)] outer) (execs (lawBody.drop 13) (envX (Str.ofString "law") lawScope L a ccd [(Str.ofString "mails", L + 1 + 1), (Str.ofString "ends", L + 1)])) Q E { s with heap := h', toks := tk }) :
    wpAny (model Challenge.rw_sc0061_01.row.prog w) (ktrTop dp un gd (Str.ofString "law") lawScope L a ccd [(Str.ofString "mails", L + 1 + 1), (Str.ofString "ends", L + 1)] outer) (execs (lawBody.drop 12) (envX (Str.ofString "law") lawScope L a ccd [(Str.ofString "mails", L + 1 + 1), (Str.ofString "ends", L + 1)])) Q E s := by
  have F1 := kst_self F (ps := [(Str.ofString "wishes", .ref W), (Str.ofString "turns", .int (tn : Int) t1), (Str.ofString "start", .int (st : Int) t2), (Str.ofString "part", .int ((pa + 1 : Nat) : Int) t3), (Str.ofString "words", .ref WD), (Str.ofString "shelf", .ref S), (Str.ofString "told", .ref TT)]) (all_cons va0 (all_cons va1 (all_cons va2 (all_cons va3 (all_cons va4 (all_cons va5 (all_cons va6 all_nil)))))))
  clear F
  revert X
  k_fill
  intro X
  conv in (execs _ _) => (arg 1; whnf)
  conv in (envX _ _ _ _ _ _) => (arg 2; whnf)
  walk_at "go"
  refine Halt.out ?_
  rename IsRange _ _ _ _ _ _ _ _ => R2
  rename Fr _ _ _ _ => F2
  rename News _ _ _ _ => N2
  refine iter_range_st (n := 5) (σ := St) (fun c => [(Str.ofString "wishes", .ref W), (Str.ofString "turns", .int (c.2.2.2.1.1 : Int) c.2.2.2.1.2), (Str.ofString "start", .int (st : Int) t2), (Str.ofString "part", .int ((pa + 1 : Nat) : Int) t3), (Str.ofString "words", .ref WD), (Str.ofString "shelf", .ref c.1.1), (Str.ofString "told", .ref TT)])
    (fun c => (c.1.1, listOf (List.toArray c.1.2.1) c.1.2.2.1) :: (TT, listOf (List.toArray c.2.1.1) nT) :: (M, listOf (List.toArray c.2.2.2.2.1.1) k2) :: (L + 1 + 1, oM) :: (ra.zip c.2.2.1.1 ++ (c.2.2.2.2.2 ++ bs)))
    (fun i c => Shelf (c.2.2.2.2.2 ++ bs) c.1.2.1 c.1.2.2.2 st (pa + 1) ∧ c.1.2.2.2.length = 5 - i ∧ IntsAre c.2.1.1 (c.2.1.2.map fun (x : Nat) => (x : Int)) ∧ Rows c.2.2.1.1 c.2.2.1.2 ∧ StrsAre c.2.2.2.2.1.1 c.2.2.2.2.1.2.1 ∧ c.2.2.2.2.1.2.1.map tl = ((List.range 5).map fun k => (c.2.2.2.2.1.2.2 k).1 ++ (c.2.2.2.2.1.2.2 k).2) ∧
      Inv ws en c.1.2.2.2 c.2.1.2 c.2.2.1.2 c.2.2.2.2.1.2.2 ∧ c.1.1 ∉ [TT, M, L + 1 + 1] ++ ra ∧ ∀ p ∈ c.2.2.2.2.2 ++ bs, p.1 ∉ [TT, M, L + 1 + 1] ++ ra ∧ p.1 ≠ c.1.1)
    ((S, sv, sn, shelfP ws), (tv, [0, 0, 0, 0, 0]), (rc, fun _ _ => false), (tn, t1), (mv, ms, fun k => mailOf en k 0), []) rfl R2 (by decide) (by decide) F2 N2 (fun _ h => h) (all_cons rfl (all_cons rfl (all_cons rfl (all_cons rfl (all_cons rfl (all_cons rfl (all_cons rfl all_nil)))))))
    ⟨hSh, by rw [shelf_len, h5], hTv, hG, hMv, hms, Inv.init h5 hw4, hS1, hbs⟩ ?turn ?done
  case done =>
    (try clear F2); (try clear N2); (try clear R2)
    rintro ⟨⟨SA, v3, n3, sh⟩, ⟨tv3, tw⟩, ⟨rc3, G⟩, ⟨tn3, tt⟩, ⟨mv3, ms3, bm⟩, lp⟩ u h tk ⟨p1, p2, p3, p4, p5, p6, p7, p8, p9⟩ F3 N3
    dsimp only at p1 p2 p3 p4 p5 p6 p7 p8 p9 F3 N3
    have hsh : sh = [] := List.length_eq_zero_iff.mp p2
    subst hsh
    walk_at "go"
    refine Halt.out ?_
    exact hQ _ _ _ tv3 tw mv3 ms3 rc3 G bm lp F3 rfl rfl rfl (Mine.News.sub N3 fun _ h => .tail _ h) p3 p5 p6 p4 p7
  case turn =>
    (try clear F2); (try clear N2); (try clear R2)
    rintro I i t ⟨⟨SA, v3, n3, sh⟩, ⟨tv3, tw⟩, ⟨rc3, G⟩, ⟨tn3, tt⟩, ⟨mv3, ms3, bm⟩, lp⟩ u h tk own Qn hlt hi ⟨p1, p2, p3, p4, p5, p6, p7, p8, p9⟩ hoff ⟨oI, hI9⟩ hown F3 N3 hQn
    dsimp only at p1 p2 p3 p4 p5 p6 p7 p8 p9 hoff F3 N3 hQn
    have esz : (5 : Int) + (i : Int) * -1 = ((5 - i : Nat) : Int) := sz_eq hi
    rw [esz] at F3
    have hOI : ∀ p ∈ own, p.1 ∉ [TT, M, L + 1 + 1] ++ ra ∧ p.1 ≠ SA := fun p hp => by
      rw [hown p hp]
      refine ⟨fun hm => ?_, fun e => hoff _ (.head _) e.symm⟩
      rcases List.mem_append.mp hm with q | q
      · simp only [List.mem_cons, List.not_mem_nil, or_false] at q
        rcases q with rfl | rfl | rfl
        · exact hoff _ (.tail _ (.head _)) rfl
        · exact hoff _ (.tail _ (.tail _ (.head _))) rfl
        · exact hoff _ (.tail _ (.tail _ (.tail _ (.head _)))) rfl
      · obtain ⟨o9, ho9⟩ := zip_has q (by rw [hra5]; exact p4.1.symm : ra.length = rc3.length)
        exact hoff _ (.tail _ (.tail _ (.tail _ (.tail _ (List.mem_append_left _ ho9))))) rfl
    have hX : ∀ p ∈ lp ++ bs ++ own, p.1 ∉ [TT, M, L + 1 + 1] ++ ra ∧ p.1 ≠ SA := fun p hp => (List.mem_append.mp hp).elim (p9 p) (hOI p)
    have N4 : News h₀ L h ((SA, listOf (List.toArray v3) n3) :: (TT, listOf (List.toArray tv3) nT) :: (M, listOf (List.toArray mv3) k2) :: (L + 1 + 1, oM) :: (ra.zip rc3 ++ (lp ++ bs ++ own))) := Mine.News.sub N3 (by walk_at "sub")
    (try clear N3); (try clear N)
    have hnd0 : (TT :: M :: (L + 1 + 1) :: ra).Nodup := hnd
    obtain ⟨q1, hnd1⟩ := List.nodup_cons.mp hnd0
    obtain ⟨q2, hnd2⟩ := List.nodup_cons.mp hnd1
    obtain ⟨q3, hra⟩ := List.nodup_cons.mp hnd2
    have dTM : TT ≠ M := fun e => q1 (e ▸ .head _)
    have dTL : TT ≠ L + 1 + 1 := fun e => q1 (e ▸ .tail _ (.head _))
    have dTr : TT ∉ ra := fun h => q1 (.tail _ (.tail _ h))
    have dML : M ≠ L + 1 + 1 := fun e => q2 (e ▸ .head _)
    have dMr : M ∉ ra := fun h => q2 (.tail _ h)
    have hAD : ∀ x, x ∉ [TT, M, L + 1 + 1] ++ ra → x ≠ TT ∧ x ≠ M ∧ x ≠ L + 1 + 1 ∧ x ∉ ra := fun x hx => ⟨fun e => hx (e ▸ .head _), fun e => hx (e ▸ .tail _ (.head _)), fun e => hx (e ▸ .tail _ (.tail _ (.head _))), fun h => hx (.tail _ (.tail _ (.tail _ h)))⟩
    have hDA : ∀ x, x ≠ TT → x ≠ M → x ≠ L + 1 + 1 → x ∉ ra → x ∉ [TT, M, L + 1 + 1] ++ ra := fun x a1 a2 a3 a4 h => by
      rcases List.mem_append.mp h with q | q
      · simp only [List.mem_cons, List.not_mem_nil, or_false] at q
        rcases q with q | q | q
        · exact a1 q
        · exact a2 q
        · exact a3 q
      · exact a4 q
    obtain ⟨s1, s2, s3, s4⟩ := hAD SA p8
    have hz3 : ∀ rc' : List Obj, ∀ p ∈ ra.zip rc', p.1 ∈ ra := fun rc' p hp => (List.of_mem_zip (a := p.1) (b := p.2) hp).1
    have hl5 : sh.length ≤ 5 := p2 ▸ Nat.sub_le 5 i
    refine seg_t1 (i := tn3 % (5 - i)) (tw := tw) (sh := sh) (by assumption) F3 (by assumption) N4 (by assumption) hd hE rfl rfl rfl rfl rfl rfl rfl rfl (p1.mono fun p hp => .tail _ (.tail _ (List.mem_append_right _ (List.mem_append_left _ hp)))) p2 (one_le_sub hi) (Nat.sub_le _ _) rfl p3 p7.tl5
      ⟨s1, fun p hp => ?o1, fun p hp => ?o2⟩ hst hpa hun ?t1
    case o1 =>
      rcases List.mem_cons.mp hp with rfl | hp
      · exact fun e => s2 e.symm
      · rcases List.mem_cons.mp hp with rfl | hp
        · exact fun e => s3 e.symm
        · rcases List.mem_append.mp hp with q | q
          · exact fun e => s4 (e ▸ hz3 _ p q)
          · exact (hX p q).2
    case o2 =>
      rcases List.mem_cons.mp hp with rfl | hp
      · exact dTM.symm
      · rcases List.mem_cons.mp hp with rfl | hp
        · exact dTL.symm
        · rcases List.mem_append.mp hp with q | q
          · exact fun e => dTr (e ▸ hz3 _ p q)
          · exact (hAD _ (hX p q).1).1
    intro h1 k1 m1 nm wi tv1 t5 t6 t7 hsi F5 a1 a2 a3 a4 a5 a6 a7 a8 a9 a10 N5 I5
    generalize tn3 % (5 - i) = ix at *
    have hmem : (nm, wi) ∈ sh := List.mem_of_getElem? hsi
    obtain ⟨hnm5, hwi5⟩ := p7.bnd _ hmem
    dsimp only at hnm5 hwi5
    have hixl := (List.getElem?_eq_some_iff.mp hsi).1
    have hRl : (sh.eraseIdx ix).length = 4 - i := by rw [List.length_eraseIdx, if_pos hixl, p2]; exact Nat.sub_right_comm 5 i 1
    have hl4 : (sh.eraseIdx ix).length ≤ 5 := hRl ▸ Nat.le_trans (Nat.sub_le 4 i) (by decide)
    have hW2 : (W, listOf (List.toArray wv) k4) ∈ (TT, listOf (List.toArray tv1) nT) :: (M, listOf (List.toArray mv3) k2) :: (L + 1 + 1, oM) :: (ra.zip rc3 ++ (lp ++ bs ++ own)) := .tail _ (.tail _ (.tail _ (List.mem_append_right _ (List.mem_append_left _ (List.mem_append_right _ hW)))))
    refine seg_t2 (sh := sh.eraseIdx ix) (ns := ws.map fun (x : Nat) => (x : Int)) (by assumption) F5 (by assumption) N5 (by assumption) hd hE a1 a2 a3 a4 a5 a6 a7 a8 a9 a10 ((p1.erase ix).mono fun p hp => .tail _ (.tail _ (.tail _ (List.mem_append_right _ (List.mem_append_left _ hp)))))
      (List.Pairwise.sublist (List.eraseIdx_sublist sh ix) p7.sort) hl4 hpa hW2 hIw (by rw [List.length_map, h5]) ?r2 ?t2
    case r2 =>
      intro h2 k2' m2' r F2' hwr hper hsor
      show Q (.ret (.bool (!grT r))) _
      rw [graph_is h5 hper hsor, p7.refuse hl5 hsi hwr]
      exact hR _ _ _ F2'
    intro h2 kk2 m2 NR S2 NA kN hwi F6 b1 b2 b3 b4 b5 b6 b7 b8 b9 b10 b11 b12 N6 hNRlt hne hS2lt hNAlt
    have hwl : wi ≤ (sh.eraseIdx ix).length := Nat.le_trans hwi (Nat.sub_le _ _)
    have hmn := p7.near hsi hwi
    have hpl := pos_le (sh := sh.eraseIdx ix) (w := 0)
    have hbase1 : ∀ (x : Addr), (∀ p ∈ (TT, listOf (List.toArray tv1) nT) :: (M, listOf (List.toArray mv3) k2) :: (L + 1 + 1, oM) :: (ra.zip rc3 ++ (lp ++ bs ++ own)), p.1 < x) → x ≠ TT ∧ x ≠ M ∧ x ≠ L + 1 + 1 ∧ x ∉ ra ∧ ∀ p ∈ lp ++ bs ++ own, p.1 ≠ x := fun x hx => by
      refine ⟨Nat.ne_of_gt (hx _ (.head _)), Nat.ne_of_gt (hx _ (.tail _ (.head _))), Nat.ne_of_gt (hx _ (.tail _ (.tail _ (.head _)))), fun hm => ?_, fun p hp => Nat.ne_of_lt (hx p (.tail _ (.tail _ (.tail _ (List.mem_append_right _ hp)))))⟩
      obtain ⟨o9, ho9⟩ := zip_has hm (by rw [hra5]; exact p4.1.symm : ra.length = rc3.length)
      exact Nat.lt_irrefl _ (hx _ (.tail _ (.tail _ (.tail _ (List.mem_append_left _ ho9)))))
    obtain ⟨r1, r2, r3, r4, r5⟩ := hbase1 NR fun p hp => hNRlt p (.tail _ hp)
    obtain ⟨u1, u2, u3, u4, u5⟩ := hbase1 S2 fun p hp => hS2lt p (.tail _ (.tail _ hp))
    obtain ⟨w1, w2, w3, w4, w5⟩ := hbase1 NA fun p hp => hNAlt p (.tail _ (.tail _ hp))
    have hNRS : NR ≠ S2 := Nat.ne_of_lt (hS2lt _ (.head _))
    have hNRA : NR ≠ NA := Nat.ne_of_lt (hNAlt _ (.head _))
    have N6' := Mine.News.sub (news := (NA, listOf (List.toArray []) 0) :: (S2, listOf (List.toArray ((v3.eraseIdx ix).take ((sh.eraseIdx ix).length - wi))) 0) :: (ra.zip rc3 ++ ((NR, listOf (List.toArray ((v3.eraseIdx ix).drop ((sh.eraseIdx ix).length - wi))) kN) :: (TT, listOf (List.toArray tv1) nT) :: (M, listOf (List.toArray mv3) k2) :: (L + 1 + 1, oM) :: (lp ++ bs ++ own)))) N6 (by walk_at "sub")
    (try clear N6)
    have hS5 : Shelf (lp ++ bs) (v3.eraseIdx ix) (sh.eraseIdx ix) st (pa + 1) := p1.erase ix
    refine seg_t3 (nm := nm) (near := (sh.eraseIdx ix).drop ((sh.eraseIdx ix).length - wi)) (sh2 := (sh.eraseIdx ix).take ((sh.eraseIdx ix).length - wi)) (G := G) (bl := lp ++ bs) (by assumption) F6 (by assumption) N6' (by assumption) hd hE b1 b2 b3 b4 b5 b6 b7 b8 b9 b11 b12
      (.head _) (.tail _ (.tail _ (.tail _ (.tail _ (List.mem_append_left _ (List.mem_append_right _ hWD)))))) (fun p hp => .tail _ (.tail _ (.tail _ (.tail _ (List.mem_append_left _ hp))))) (hS5.drop _) (hS5.take _) (List.Pairwise.sublist (List.take_sublist _ _) (List.Pairwise.sublist (List.eraseIdx_sublist sh ix) p7.sort))
      (by rw [List.length_take, List.length_drop, cut_sum hwl]; exact hl4) hmn hnm5 hra hra5 p4 hne w4 u4 (fun p hp => ?o3) hst hpa ?t3
    case o3 =>
      rcases List.mem_cons.mp hp with rfl | hp
      · exact ⟨hNRA, hNRS, r4⟩
      · rcases List.mem_cons.mp hp with rfl | hp
        · exact ⟨w1.symm, u1.symm, dTr⟩
        · rcases List.mem_cons.mp hp with rfl | hp
          · exact ⟨w2.symm, u2.symm, dMr⟩
          · rcases List.mem_cons.mp hp with rfl | hp
            · exact ⟨w3.symm, u3.symm, q3⟩
            · exact ⟨w5 p hp, u5 p hp, (hAD _ (hX p hp).1).2.2.2⟩
    intro h3 kk3 m3 nv v4 rc4 lp4 n1 n4 F7 c1 c2 c3 c4 c5 c6 c7 c8 c9 c10 c11 N7 hnv hSh4 hG4 hlp4 hlpr4
    have N7' := Mine.News.sub (news := (NA, listOf (List.toArray nv) n1) :: (M, listOf (List.toArray mv3) k2) :: (L + 1 + 1, oM) :: ((S2, listOf (List.toArray v4) n4) :: (TT, listOf (List.toArray tv1) nT) :: (ra.zip rc4 ++ (lp4 ++ (lp ++ bs ++ own))))) N7 (by walk_at "sub")
    (try clear N7)
    have hnn : (((sh.eraseIdx ix).drop ((sh.eraseIdx ix).length - wi)).map (·.1)).Nodup := List.Pairwise.sublist (List.Sublist.map _ ((List.drop_sublist _ _).trans (List.eraseIdx_sublist sh ix))) p7.nd
    refine seg_t4 (nl := ((sh.eraseIdx ix).drop ((sh.eraseIdx ix).length - wi)).map (·.1)) (bm := bm) (ms := ms3) (by assumption) F7 (by assumption) N7' (by assumption) hd hE c1 c2 c3 c4 c5 c6 c7 c11 hM (by rw [List.map_map]; exact hnv) hnn (fun k hk => ?n5) (by rw [List.length_map, List.length_drop]; exact Nat.le_trans (Nat.sub_le _ _) hl4) p5 p6 (fun k hk => ?m5) ⟨w2, dML, fun p hp => ?o4⟩ ?t4
    case n5 =>
      obtain ⟨q, hq, rfl⟩ := List.mem_map.mp hk
      exact (p7.bnd q ((List.eraseIdx_sublist sh ix).subset (List.mem_of_mem_drop hq))).1
    case m5 =>
      obtain ⟨g, hg, e⟩ := p7.mail hw4 h5 hk
      rw [e]; exact mail_facts hk hg (hen k hk)
    case o4 =>
      rcases List.mem_cons.mp hp with rfl | hp
      · exact u2
      · rcases List.mem_cons.mp hp with rfl | hp
        · exact dTM
        · rcases List.mem_append.mp hp with q | q
          · exact fun e => dMr (e ▸ hz3 _ p q)
          · rcases List.mem_append.mp q with q | q
            · exact hlpr4 p q _ (.tail _ (.tail _ (.head _)))
            · exact (hAD _ (hX p q).1).2.1
    intro h4 kk4 m4 mv5 ms5 F8 d1 d2 d3 d4 d5 d6 d7 N8 hS8 hms8
    show Qn _
    refine hQn ((S2, v4, n4, nearSh ((sh.eraseIdx ix).take ((sh.eraseIdx ix).length - wi)) ((sh.eraseIdx ix).drop ((sh.eraseIdx ix).length - wi))), (tv1, tw.set nm wi), (rc4, nearG G nm ((sh.eraseIdx ix).drop ((sh.eraseIdx ix).length - wi))), (tn3 / (5 - i), t7), (mv5, ms5, bmAt bm (((sh.eraseIdx ix).drop ((sh.eraseIdx ix).length - wi)).map (·.1)) (((sh.eraseIdx ix).drop ((sh.eraseIdx ix).length - wi)).map (·.1)).length), lp4 ++ lp) m4 h4 kk4 _
      ⟨by rw [List.append_assoc]; exact hSh4, ?_, I5, hG4, hS8, hms8, p7.turn hl5 hsi hwi, hDA S2 u1 u2 u3 u4, fun p hp => ?_⟩ (fun p hp => ?_) F8 (all_cons d1 (all_cons d2 (all_cons d3 (all_cons d4 (all_cons d5 (all_cons d6 (all_cons d7 all_nil))))))) N8 (fun p hp => ?_)
    · show (nearSh _ _).length = _
      rw [nearSh_len, List.length_take, List.length_drop, cut_sum hwl, hRl]; exact (Nat.add_sub_add_right 4 1 i).symm
    · rcases List.mem_append.mp hp with q | q
      · rcases List.mem_append.mp q with q | q
        · have z := hlpr4 p q
          exact ⟨hDA _ (z _ (.tail _ (.head _))) (z _ (.tail _ (.tail _ (.head _)))) (z _ (.tail _ (.tail _ (.tail _ (.head _))))) (hlp4 p q).2.2, (hlp4 p q).2.1⟩
        · exact ⟨(p9 p (List.mem_append_left _ q)).1, u5 p (List.mem_append_left _ (List.mem_append_left _ q))⟩
      · exact ⟨(p9 p (List.mem_append_right _ q)).1, u5 p (List.mem_append_left _ (List.mem_append_right _ q))⟩
    · rcases List.mem_cons.mp hp with rfl | hp
      · exact fun e => u5 (I, oI) (List.mem_append_right _ hI9) e.symm
      · rcases List.mem_cons.mp hp with rfl | hp
        · exact hoff (TT, listOf (List.toArray tv3) nT) (.tail _ (.head _))
        · rcases List.mem_cons.mp hp with rfl | hp
          · exact hoff (M, listOf (List.toArray mv3) k2) (.tail _ (.tail _ (.head _)))
          · rcases List.mem_cons.mp hp with rfl | hp
            · exact hoff _ (.tail _ (.tail _ (.tail _ (.head _))))
            · rcases List.mem_append.mp hp with q | q
              · obtain ⟨o9, ho9⟩ := zip_has (hz3 _ p q) (by rw [hra5]; exact p4.1.symm : ra.length = rc3.length)
                exact hoff (p.1, o9) (.tail _ (.tail _ (.tail _ (.tail _ (List.mem_append_left _ ho9)))))
              · rcases List.mem_append.mp q with q | q
                · rcases List.mem_append.mp q with q | q
                  · exact hlpr4 p q (I, oI) (.tail _ (.tail _ (.tail _ (.tail _ (List.mem_append_right _ hI9)))))
                  · exact hoff p (.tail _ (.tail _ (.tail _ (.tail _ (List.mem_append_right _ (List.mem_append_left _ q))))))
                · exact hoff p (.tail _ (.tail _ (.tail _ (.tail _ (List.mem_append_right _ (List.mem_append_right _ q))))))
    · revert p; walk_at "sub"
end
end
section
open PySem PySem.W PyProof.Rows
theorem inRun_congr {c c' : Nat → Int} {σ : Cell} {M : Nat} (h : ∀ j, j < M → c j = c' j) : ∀ j, j ≤ M → inRun c σ j = inRun c' σ j
  | 0, _ => rfl
  | j + 1, hj => by
    show inStep c (inRun c σ j) j = inStep c' (inRun c' σ j) j
    rw [inRun_congr h j (by lia)]
    unfold inStep
    rw [h j (by lia)]
theorem rowRun_congr {c c' : Nat → Int} {M : Nat} {row : List Int} {i : Nat} (h : ∀ j, j < M → c j = c' j) : rowRun c M row i = rowRun c' M row i := by
  unfold rowRun; exact inRun_congr h M (Nat.le_refl _)
theorem outRun_congr {cc cc' : Nat → Nat → Int} {M n : Nat} (h : ∀ i, i < n → ∀ j, j < M → cc i j = cc' i j) : ∀ i, i ≤ n → outRun cc M i = outRun cc' M i
  | 0, _ => rfl
  | i + 1, hi => by
    unfold outRun
    rw [outRun_congr h i (by lia), rowRun_congr (h i (by lia))]
def fcc (a b : Nat) : Int := if a = b then 0 else if a % 32 = b % 32 then 1 else 2
def fc (X Y : List Nat) (i j : Nat) : Int := fcc (Y.getD i 0) (X.getD j 0)
def Letter (c : Nat) : Prop := c ∈ [65, 66, 67, 68, 69, 97, 98, 99, 100, 101]
theorem sc_letters : ∀ a ∈ [65, 66, 67, 68, 69, 97, 98, 99, 100, 101], ∀ b ∈ [65, 66, 67, 68, 69, 97, 98, 99, 100, 101], sc (strL [a]) (strL [b]) = fcc a b := by decide +kernel
theorem item_is {X : List Nat} {i : Nat} (h : i < X.length) : Txt.item (strL X) (i : Int) = strL [X.getD i 0] := by
  rw [item_nat (by rw [len_of (rfl : tl (strL X) = X)]; exact h)]
  rfl
theorem ccS_is {X Y : List Nat} (hX : ∀ c ∈ X, Letter c) (hY : ∀ c ∈ Y, Letter c) {i j : Nat} (hi : i < Y.length) (hj : j < X.length) : ccS (strL X) (strL Y) i j = fc X Y i j := by
  unfold ccS fc
  rw [item_is hi, item_is hj]
  refine sc_letters _ ?_ _ ?_
  · rw [List.getD_eq_getElem?_getD, List.getElem?_eq_getElem hi]; exact hY _ (List.getElem_mem _)
  · rw [List.getD_eq_getElem?_getD, List.getElem?_eq_getElem hj]; exact hX _ (List.getElem_mem _)
/-! the distance of two words that differ in the size of the letters alone -/
def levF (X Y : List Nat) : Int := if X = Y then 0 else (outRun (fc (levX X Y) (levY X Y)) (levX X Y).length (levX X Y).length).2
def okF (X Y : List Nat) : Bool := decide (preL X Y < X.length) && decide (preL (X.drop (preL X Y)).reverse (Y.drop (preL X Y)).reverse < X.length - preL X Y) && (List.range (levX X Y).length).all fun i => decide ((rowRun (fc (levX X Y) (levY X Y) i) (levX X Y).length (outRun (fc (levX X Y) (levY X Y)) (levX X Y).length i).1 i).2.2.2 ≤ 5)
theorem levX_mem {X Y : List Nat} {c : Nat} (h : c ∈ levX X Y) : c ∈ X := List.mem_of_mem_drop (List.mem_of_mem_take h)
theorem levY_mem {X Y : List Nat} {c : Nat} (h : c ∈ levY X Y) : c ∈ Y := List.mem_of_mem_drop (List.mem_of_mem_take h)
theorem lev_fast {X Y : List Nat} (hX : ∀ c ∈ X, Letter c) (hY : ∀ c ∈ Y, Letter c) (hl : X.length = Y.length) : ∀ i, i < (levX X Y).length → ∀ j, j < (levX X Y).length → levC X Y i j = fc (levX X Y) (levY X Y) i j := by
  intro i hi j hj
  have e : (levY X Y).length = (levX X Y).length := by
    unfold levX levY
    rw [List.length_take, List.length_take, List.length_drop, List.length_drop, hl]
  exact ccS_is (fun c h => hX c (levX_mem h)) (fun c h => hY c (levY_mem h)) (by rw [e]; exact hi) hj
theorem levT_is {X Y : List Nat} (hX : ∀ c ∈ X, Letter c) (hY : ∀ c ∈ Y, Letter c) (hl : X.length = Y.length) : levT X Y = levF X Y := by
  unfold levT levF
  split
  · rfl
  · rw [outRun_congr (lev_fast hX hY hl) _ (Nat.le_refl _)]
theorem levOk_of {X Y : List Nat} (hX : ∀ c ∈ X, Letter c) (hY : ∀ c ∈ Y, Letter c) (hl : X.length = Y.length) (h : okF X Y = true) : LevOk X Y := by
  unfold okF at h
  simp only [Bool.and_eq_true, decide_eq_true_eq, List.all_eq_true, List.mem_range] at h
  obtain ⟨⟨h1, h2⟩, h3⟩ := h
  refine ⟨h1, h2, fun i hi => ?_⟩
  rw [outRun_congr (lev_fast hX hY hl) i (Nat.le_of_lt hi), rowRun_congr (lev_fast hX hY hl i hi)]
  exact h3 i hi
def tx5 (a b c d e : Bool) : List Nat := [if a = true then 65 else 97, if b = true then 66 else 98, if c = true then 67 else 99, if d = true then 68 else 100, if e = true then 69 else 101]
def b2 (a b : Bool) : Nat := if a = b then 0 else 1
def chk (a b c d e a' b' c' d' e' : Bool) : Bool :=
  (levF (tx5 a b c d e) (tx5 a' b' c' d' e') == ((b2 a a' + b2 b b' + b2 c c' + b2 d d' + b2 e e' : Nat) : Int)) && (decide (tx5 a b c d e = tx5 a' b' c' d' e') || okF (tx5 a b c d e) (tx5 a' b' c' d' e'))
/-! how far two words are depends on where they differ alone: 32 masks, not 1024 pairs -/
def preM : List Bool → Nat
  | false :: r => preM r + 1
  | _ => 0
def cM (M : List Bool) (i j : Nat) : Int := if i = j then (if M.getD i false = true then 1 else 0) else 2
def nM (M : List Bool) : Nat := 5 - preM M - preM (M.drop (preM M)).reverse
def ccM (M : List Bool) (i j : Nat) : Int := cM M (preM M + i) (preM M + j)
def okM (M : List Bool) : Bool :=
  (decide (preM M < 5) && decide (preM (M.drop (preM M)).reverse < 5 - preM M)) && (List.range (nM M)).all (fun i => decide ((rowRun (ccM M i) (nM M) (outRun (ccM M) (nM M) i).1 i).2.2.2 ≤ 5)) && ((outRun (ccM M) (nM M) (nM M)).2 == ((M.countP id : Nat) : Int))
theorem okM_all : ∀ a b c d e : Bool, (a || b || c || d || e) = true → okM [a, b, c, d, e] = true := by decide +kernel
theorem zipL : ∀ X Y : List Nat, preL X Y = preM (List.zipWith (fun x y => x != y) X Y)
  | [], _ => rfl
  | _ :: _, [] => rfl
  | a :: r, b :: q => by
    show (if a = b then preL r q + 1 else 0) = preM ((a != b) :: List.zipWith (fun x y => x != y) r q)
    by_cases h : a = b
    · rw [if_pos h, bne_eq_false_iff_eq.mpr h, zipL r q]; rfl
    · rw [if_neg h, bne_iff_ne.mpr h]; rfl
theorem tx5_get {a b c d e : Bool} : ∀ k, k < 5 → (tx5 a b c d e).getD k 0 = if [a, b, c, d, e].getD k false = true then 65 + k else 97 + k
  | 0, _ => rfl
  | 1, _ => rfl
  | 2, _ => rfl
  | 3, _ => rfl
  | 4, _ => rfl
theorem fcc_bits : ∀ i, i < 5 → ∀ j, j < 5 → ∀ u v : Bool, fcc (if u = true then 65 + i else 97 + i) (if v = true then 65 + j else 97 + j) = if i = j then (if (v != u) = true then 1 else 0) else 2 := by decide +kernel
theorem mask_get {a b c d e a' b' c' d' e' : Bool} : ∀ k, k < 5 → [a != a', b != b', c != c', d != d', e != e'].getD k false = ([a, b, c, d, e].getD k false != [a', b', c', d', e'].getD k false)
  | 0, _ => rfl
  | 1, _ => rfl
  | 2, _ => rfl
  | 3, _ => rfl
  | 4, _ => rfl
theorem cost_bits {a b c d e a' b' c' d' e' : Bool} {i j : Nat} (hi : i < 5) (hj : j < 5) : fcc ((tx5 a' b' c' d' e').getD i 0) ((tx5 a b c d e).getD j 0) = cM [a != a', b != b', c != c', d != d', e != e'] i j := by
  rw [tx5_get i hi, tx5_get j hj, fcc_bits i hi j hj]
  unfold cM
  by_cases h : i = j
  · subst h; rw [if_pos rfl, if_pos rfl, mask_get i hi]
  · rw [if_neg h, if_neg h]
theorem ne_letter : ∀ u v : Bool, ((if u = true then 65 else 97) != (if v = true then 65 else 97)) = (u != v) ∧ ((if u = true then 66 else 98) != (if v = true then 66 else 98)) = (u != v) ∧ ((if u = true then 67 else 99) != (if v = true then 67 else 99)) = (u != v)
    ∧ ((if u = true then 68 else 100) != (if v = true then 68 else 100)) = (u != v) ∧ ((if u = true then 69 else 101) != (if v = true then 69 else 101)) = (u != v) := by decide
theorem zip5 {a b c d e a' b' c' d' e' : Bool} : List.zipWith (fun x y => x != y) (tx5 a b c d e) (tx5 a' b' c' d' e') = [a != a', b != b', c != c', d != d', e != e'] := by
  show [(if a = true then 65 else 97) != (if a' = true then 65 else 97), (if b = true then 66 else 98) != (if b' = true then 66 else 98), (if c = true then 67 else 99) != (if c' = true then 67 else 99), (if d = true then 68 else 100) != (if d' = true then 68 else 100), (if e = true then 69 else 101) != (if e' = true then 69 else 101)] = _
  rw [(ne_letter a a').1, (ne_letter b b').2.1, (ne_letter c c').2.2.1, (ne_letter d d').2.2.2.1, (ne_letter e e').2.2.2.2]
theorem cut_get {X : List Nat} {p n j : Nat} (h : j < n) : ((X.drop p).take n).getD j 0 = X.getD (p + j) 0 := by
  rw [List.getD_eq_getElem?_getD, List.getD_eq_getElem?_getD, List.getElem?_take_of_lt h, List.getElem?_drop]
theorem preL_self : ∀ X : List Nat, preL X X = X.length
  | [] => rfl
  | a :: r => by show (if a = a then preL r r + 1 else 0) = _; rw [if_pos rfl, preL_self r]; rfl
theorem chk_all : ∀ a b c d e a' b' c' d' e' : Bool, chk a b c d e a' b' c' d' e' = true := by
  intro a b c d e a' b' c' d' e'
  by_cases hm : ((a != a') || (b != b') || (c != c') || (d != d') || (e != e')) = true
  · have h := okM_all _ _ _ _ _ hm
    have hz := @zip5 a b c d e a' b' c' d' e'
    have hc0 := fun i j (hi : i < 5) (hj : j < 5) => @cost_bits a b c d e a' b' c' d' e' i j hi hj
    have hs : ((b2 a a' + b2 b b' + b2 c c' + b2 d d' + b2 e e' : Nat) : Int) = (([a != a', b != b', c != c', d != d', e != e'].countP id : Nat) : Int) := by
      have q : ∀ u v : Bool, b2 u v = if id (u != v) = true then 1 else 0 := by decide
      simp only [List.countP_cons, List.countP_nil, ← q]
      congr 1
      lia
    unfold chk
    rw [hs]
    have hXl : (tx5 a b c d e).length = 5 := rfl
    have hYl : (tx5 a' b' c' d' e').length = 5 := rfl
    generalize tx5 a b c d e = X at *
    generalize tx5 a' b' c' d' e' = Y at *
    generalize [a != a', b != b', c != c', d != d', e != e'] = M at *
    have hp : preL X Y = preM M := by rw [zipL, hz]
    have hq : preL (X.drop (preL X Y)).reverse (Y.drop (preL X Y)).reverse = preM (M.drop (preM M)).reverse := by
      rw [zipL, ← List.reverse_zipWith (by rw [List.length_drop, List.length_drop, hXl, hYl]), ← List.drop_zipWith, hz, hp]
    have hn : (levX X Y).length = nM M := by
      unfold levX nM
      rw [List.length_take, List.length_drop, hXl, hq, hp]
      exact Nat.min_eq_left (Nat.sub_le _ _)
    unfold okM at h
    simp only [Bool.and_eq_true, decide_eq_true_eq, beq_iff_eq] at h
    obtain ⟨⟨⟨h1, h2⟩, h3⟩, h4⟩ := h
    have hc : ∀ i, i < nM M → ∀ j, j < nM M → fc (levX X Y) (levY X Y) i j = ccM M i j := by
      intro i hi j hj
      unfold fc levX levY ccM
      rw [hXl, hq, hp]
      have hb : nM M ≤ 5 - preM M := Nat.sub_le _ _
      rw [show 5 - preM M - preM (M.drop (preM M)).reverse = nM M from rfl, cut_get hi, cut_get hj]
      exact hc0 _ _ (by lia) (by lia)
    have hne : X ≠ Y := fun q => by
      subst q
      rw [preL_self, hXl] at hp
      lia
    rw [Bool.and_eq_true, beq_iff_eq, Bool.or_eq_true]
    refine ⟨?_, .inr ?_⟩
    · unfold levF
      rw [if_neg hne, hn, outRun_congr hc _ (Nat.le_refl _), h4]
    · unfold okF
      rw [hq, hn, hp, hXl]
      simp only [Bool.and_eq_true, decide_eq_true_eq, List.all_eq_true, List.mem_range] at h3 ⊢
      refine ⟨⟨h1, h2⟩, fun i hi => ?_⟩
      rw [outRun_congr hc i (Nat.le_of_lt hi), rowRun_congr (hc i hi)]
      exact h3 i hi
  · simp only [Bool.or_eq_true, bne_iff_ne, not_or, Decidable.not_not] at hm
    obtain ⟨⟨⟨⟨rfl, rfl⟩, rfl⟩, rfl⟩, rfl⟩ := hm
    have q : ∀ u : Bool, b2 u u = 0 := by decide
    unfold chk levF
    rw [if_pos rfl, q, q, q, q, q, decide_eq_true rfl]
    rfl
end
section
open PySem PySem.W PyProof.Rows
def txt (r : Nat → Bool) : List Nat := (rowT r).flatten
theorem txt_is {r : Nat → Bool} : txt r = tx5 (r 0) (r 1) (r 2) (r 3) (r 4) := rfl
theorem txt_len {r : Nat → Bool} : (txt r).length = 5 := by rw [txt_is]; rfl
theorem txt_letter {r : Nat → Bool} : ∀ c ∈ txt r, Letter c := by
  rw [txt_is]
  have : ∀ a b c d e : Bool, ∀ x ∈ tx5 a b c d e, x ∈ [65, 66, 67, 68, 69, 97, 98, 99, 100, 101] := by decide
  exact this _ _ _ _ _
def cnt (r s : Nat → Bool) : Nat := (List.range 5).countP fun j => r j != s j
theorem cnt_is {r s : Nat → Bool} : cnt r s = b2 (r 0) (s 0) + b2 (r 1) (s 1) + b2 (r 2) (s 2) + b2 (r 3) (s 3) + b2 (r 4) (s 4) := by
  have e : ∀ a b : Bool, (if (a != b) = true then 1 else 0) = b2 a b := by decide
  show List.countP (fun j => r j != s j) [0, 1, 2, 3, 4] = _
  simp only [List.countP_cons, List.countP_nil, e]
  lia
theorem lev_txt {r s : Nat → Bool} : levT (txt r) (txt s) = (cnt r s : Int) ∧ (txt r ≠ txt s → LevOk (txt r) (txt s)) := by
  have h := chk_all (r 0) (r 1) (r 2) (r 3) (r 4) (s 0) (s 1) (s 2) (s 3) (s 4)
  unfold chk at h
  rw [← txt_is, ← txt_is, ← cnt_is, Bool.and_eq_true, beq_iff_eq, Bool.or_eq_true, decide_eq_true_eq] at h
  have hl : (txt r).length = (txt s).length := by rw [txt_len, txt_len]
  refine ⟨by rw [levT_is txt_letter txt_letter hl]; exact h.1, fun hne => levOk_of txt_letter txt_letter hl ?_⟩
  rcases h.2 with h | h
  · exact absurd h hne
  · exact h
theorem low_txt : txt (fun _ => false) = [97, 98, 99, 100, 101] := rfl
theorem low_str : tl (Str.ofString "abcde") = txt (fun _ => false) := by decide +kernel
theorem cnt_low {G : Gr} {k : Nat} : cnt (fun _ => false) (G k) = deg G k := by
  unfold cnt deg
  congr 1
  funext j
  cases G k j <;> rfl
/-! the ten ways -/
def ways2 (G : Gr) (k : Nat) : Nat → Nat
  | 0 => 0
  | j + 1 => ways2 G k j + cnt (G j) (G k)
def ways1 (G : Gr) : Nat → Nat
  | 0 => 0
  | k + 1 => ways1 G k + ways2 G k k
def b5 (x : Nat → Bool) : Nat := (List.range 5).countP x
theorem col_all : ∀ a b c d e : Bool, b2 a b + (b2 a c + b2 b c) + (b2 a d + b2 b d + b2 c d) + (b2 a e + b2 b e + b2 c e + b2 d e) =
    ((if a = true then 1 else 0) + (if b = true then 1 else 0) + (if c = true then 1 else 0) + (if d = true then 1 else 0) + (if e = true then 1 else 0)) *
    (5 - ((if a = true then 1 else 0) + (if b = true then 1 else 0) + (if c = true then 1 else 0) + (if d = true then 1 else 0) + (if e = true then 1 else 0))) := by decide
theorem deg_is {G : Gr} {k : Nat} : deg G k = (if G k 0 = true then 1 else 0) + (if G k 1 = true then 1 else 0) + (if G k 2 = true then 1 else 0) + (if G k 3 = true then 1 else 0) + (if G k 4 = true then 1 else 0) := by
  show List.countP (G k) [0, 1, 2, 3, 4] = _
  simp only [List.countP_cons, List.countP_nil]
  lia
theorem ways_is {G : Gr} (hs : ∀ i j, G i j = G j i) : ways1 G 5 = ((List.range 5).map fun k => deg G k * (5 - deg G k)).sum := by
  have hc : ∀ v, b2 (G 0 v) (G 1 v) + (b2 (G 0 v) (G 2 v) + b2 (G 1 v) (G 2 v)) + (b2 (G 0 v) (G 3 v) + b2 (G 1 v) (G 3 v) + b2 (G 2 v) (G 3 v)) + (b2 (G 0 v) (G 4 v) + b2 (G 1 v) (G 4 v) + b2 (G 2 v) (G 4 v) + b2 (G 3 v) (G 4 v)) = deg G v * (5 - deg G v) := fun v => by
    rw [col_all, deg_is, hs v 0, hs v 1, hs v 2, hs v 3, hs v 4]
  show _ = deg G 0 * (5 - deg G 0) + (deg G 1 * (5 - deg G 1) + (deg G 2 * (5 - deg G 2) + (deg G 3 * (5 - deg G 3) + (deg G 4 * (5 - deg G 4) + 0))))
  rw [← hc 0, ← hc 1, ← hc 2, ← hc 3, ← hc 4]
  simp only [ways1, ways2, cnt_is, Nat.zero_add, Nat.add_zero]
  ac_rfl
theorem mul_dots : ∀ g, g < 6 → tl (Txt.mul (Str.ofString ".") ((1 + g : Nat) : Int)) = List.replicate (1 + g) 46 := by decide +kernel
theorem mul_fits : ∀ g, g < 6 → (decide (((1 + g : Nat) : Int) < -(2 ^ 63 : Int)) || decide (((1 + g : Nat) : Int) ≥ 2 ^ 63)) = false ∧ (¬ ((Str.ofString ".").length : Int) > (2 ^ 63 - 1) / ((1 + g : Nat) : Int)) ∧ PySem.Builtin.Str.tooLong ((Str.ofString ".").length * (((1 + g : Nat) : Int)).toNat) = false := by decide +kernel
section
variable {prog : Program} {w : World} {A : Around} {E : Value → Shared → Prop} {s : Shared} {Q : Value → Shared → Prop}
theorem g_muldots {g : Nat} {n : Int} {t u : Tok} (hn : n = ((1 + g : Nat) : Int)) (hg : g < 6) (h : ∀ t' k z, tl z = List.replicate (1 + g) 46 → Q (.str z t') { s with toks := k }) : wpAny (model prog w) A (binaryOp .Mult (.str (Str.ofString ".") t) (.int n u)) Q E s := by
  subst hn
  obtain ⟨h1, h2, h3⟩ := mul_fits g hg
  exact SB.mul ⟨h1, fun _ _ => h2, fun _ _ => h3⟩ fun t' k => h t' k _ (mul_dots g hg)
end
theorem mul_nat {a : Nat} (h : a ≤ 4) : (a : Int) * (5 - (a : Int)) = ((a * (5 - a) : Nat) : Int) := by
  match a, h with
  | 0, _ => rfl
  | 1, _ => rfl
  | 2, _ => rfl
  | 3, _ => rfl
  | 4, _ => rfl
theorem sum_ws {ws : List Nat} {G : Gr} (h5 : ws.length = 5) (hw : ∀ x ∈ ws, x ≤ 4) (hd : ∀ k, k < 5 → deg G k = ws.getD k 0) : (ws.map fun (x : Nat) => (x : Int) * (5 - (x : Int))).sum = ((((List.range 5).map fun k => deg G k * (5 - deg G k)).sum : Nat) : Int) := by
  match ws, h5 with
  | [a, b, c, d, e], _ =>
    have e0 : deg G 0 = a := hd 0 (by decide)
    have e1 : deg G 1 = b := hd 1 (by decide)
    have e2 : deg G 2 = c := hd 2 (by decide)
    have e3 : deg G 3 = d := hd 3 (by decide)
    have e4 : deg G 4 = e := hd 4 (by decide)
    show _ = (((deg G 0 * (5 - deg G 0) + (deg G 1 * (5 - deg G 1) + (deg G 2 * (5 - deg G 2) + (deg G 3 * (5 - deg G 3) + (deg G 4 * (5 - deg G 4) + 0))))) : Nat) : Int)
    rw [e0, e1, e2, e3, e4]
    simp only [List.map_cons, List.map_nil, List.sum_cons, List.sum_nil]
    rw [mul_nat (hw a (by simp)), mul_nat (hw b (by simp)), mul_nat (hw c (by simp)), mul_nat (hw d (by simp)), mul_nat (hw e (by simp))]
    lia
end
section
open PySem PySem.W PyProof.Rows PySem.Flt
local macro_rules | `(tactic| walk_at "call ref") => `(tactic| (k_here; (with_reducible show wpAny _ _ (call (Value.ref 9999) _ _) _ _ _); refine Halt.mk ?_))
local macro_rules | `(tactic| walk_at "call ref") => `(tactic| (k_here; (with_reducible show wpAny _ _ (call (Value.ref 70) _ _) _ _ _); (with_reducible rename Fr _ _ _ _ => kF); k_dflt (refine' c_bis (by assumption) kF (by assumption) (by k_asm) (by assumption) (by rfl) (by ktr_room) (by (walk_at "mem")) (by with_reducible assumption) (by with_reducible assumption) (by with_reducible assumption) ?_); walk_at "ie"))
local macro_rules | `(tactic| walk_at "call ref") => `(tactic| (k_here; (with_reducible show wpAny _ _ (call (Value.ref 113) _ _) _ _ _); (with_reducible rename Fr _ _ _ _ => kF); k_dflt (refine' c_graph (by assumption) kF (by assumption) (by k_asm) (by assumption) (by rfl) (by ktr_room) (by (walk_at "mem")) (by with_reducible assumption) (by with_reducible assumption) ?_); walk_at "ie"))
local macro_rules | `(tactic| walk_at "lit") => `(tactic| first | lia | (simp only [show (Str.ofString "abcde").length = 5 from rfl, show (Str.ofString "ABCDE").length = 5 from rfl]; lia))
local macro_rules | `(tactic| walk_at "binaryOp Add str str") => `(tactic| (k_here; k_dflt (refine' g_addstr (by first | lia | (simp only [Str.length_append]; lia)) ?_); walk_at "ie"))
local macro_rules | `(tactic| walk_at "subscriptTail Name Name ref int") => `(tactic| ((try dsimp only); k_here; k_dflt (first
  | (refine' g_item_nats (by k_asm) (by (walk_at "mem")) (by with_reducible assumption) (by lia) (by lia) ?_ (by with_unfolding_all rfl))
  | (refine' g_item_strs (by k_asm) (by (walk_at "mem")) (by with_reducible assumption) (by lia) (by lia) (by lia) ?_ (by with_unfolding_all rfl))); walk_at "ie"))
local macro_rules | `(tactic| walk_at "call builtin:str.join") => `(tactic| (k_here; k_dflt (refine' g_join (by k_asm) (by (walk_at "mem")) (by with_reducible assumption) (by decide +kernel) (by with_reducible assumption) ?_); walk_at "ie"))
local macro_rules | `(tactic| walk_at "call ref") => `(tactic| (k_here; (with_reducible show wpAny _ _ (call (Value.ref 101) _) _ _ _); (with_reducible rename Fr _ _ _ _ => kF); k_dflt (refine' c_lev (by assumption) kF (by assumption) (by k_asm) (by assumption) (by rfl) (by ktr_room) (by walk_at "len5") (by walk_at "len5") (by walk_at "levok") ?_); walk_at "ie"))
local macro_rules | `(tactic| walk_at "len5") => `(tactic| first | (with_reducible assumption) | decide +kernel)
local macro_rules | `(tactic| walk_at "levok") => `(tactic| with_reducible assumption)
local macro_rules | `(tactic| walk_at "binaryOp Mult str int") => `(tactic| refine Halt.mk ?_)
local macro_rules | `(tactic| walk_at "execs cons") => `(tactic| ((with_reducible show wpAny _ _ (execs (Stmt.For _ _ _ _ _ :: _) _) _ _ _); refine Halt.mk ?_))
section
variable {w : World} {mean : ExcName → Option Value} {mg mb : Str → Option Value} {dp un : Nat} {gd : Option (List Code)} {cn : Str} {cs : Scope} {a : Addr} {ccd : Value} {cl : List (Str × Addr)} {outer : List Env} {A₀ : Around} {base h₀ : Heap} {L : Addr} {m : Str → Option Value} {news : List (Addr × Obj)} {s : Shared} {Q : Flow → Shared → Prop} {E : Value → Shared → Prop}
set_option maxRecDepth 100000
set_option maxHeartbeats 8000000

theorem seg_e {W WD TT M EA : Addr} {tv wv mv ev : List Value} {nT k2 k3 k4 kw : Nat} {ws tw : List Nat} {en : Nat → List Nat} {ra : List Addr} {rc : List Obj} {ms es : List Str} {oM oE : Obj} {G : Gr} {bm : Nat → List Nat × List Nat} (B : Below A₀ base outer h₀) (F : Fr h₀ L s.heap m) (X : (Mine.hd.heap_39 w.params).In h₀) (N : News h₀ L s.heap ((L + 1 + 1, oM) :: (L + 1, oE) :: news)) (T : Top Mine.hd.view_39 looseL mean mg mb h₀) (hd : dp + 40 < recursionLimit) (hE : PassesOwn (model Challenge.rw_sc0061_01.row.prog w) (ktrTop dp un gd (Str.ofString "law") lawScope L a ccd [(Str.ofString "mails", L + 1 + 1), (Str.ofString "ends", L + 1)] outer) (envX (Str.ofString "law") lawScope L a ccd [(Str.ofString "mails", L + 1 + 1), (Str.ofString "ends", L + 1)]) E) (va0 : m (Str.ofString "wishes") = some (.ref W)) (va1 : m (Str.ofString "words") = some (.ref WD)) (va2 : m (Str.ofString "told") = some (.ref TT))
    (hW : (W, listOf (List.toArray wv) k4) ∈ news) (hIw : IntsAre wv (ws.map fun (x : Nat) => (x : Int))) (h5 : ws.length = 5) (hw4 : ∀ x ∈ ws, x ≤ 4) (hWD : (WD, listOf (List.toArray (ra.map Value.ref)) kw) ∈ news) (hT : (TT, listOf (List.toArray tv) nT) ∈ news) (hIt : IntsAre tv (tw.map fun (x : Nat) => (x : Int)))
    (hMm : (M, listOf (List.toArray mv) k2) ∈ news) (hMv : StrsAre mv ms) (hms : ms.map tl = (List.range 5).map fun k => (bm k).1 ++ (bm k).2) (hEm : (EA, listOf (List.toArray ev) k3) ∈ news) (hEv : StrsAre ev es) (hes : es.map tl = (List.range 5).map en) (hen : ∀ k, k < 5 → IsE (en k))
    (hM : oM.data = .cell (some (.ref M))) (hE9 : oE.data = .cell (some (.ref EA))) (hra5 : ra.length = 5) (hrows : ∀ p ∈ ra.zip rc, p ∈ news) (hG : Rows rc G) (I : Inv ws en [] tw G bm) (hLM : @LT.lt Nat _ (L + 1) (L + 1 + 1))
    (hQ : ∀ h' tk m', Fr h₀ L h' m' → Q (.ret (.bool true)) { s with heap := h', toks := tk }) :
    wpAny (model Challenge.rw_sc0061_01.row.prog w) (ktrTop dp un gd (Str.ofString "law") lawScope L a ccd [(Str.ofString "mails", L + 1 + 1), (Str.ofString "ends", L + 1)] outer) (execs (lawBody.drop 13) (envX (Str.ofString "law") lawScope L a ccd [(Str.ofString "mails", L + 1 + 1), (Str.ofString "ends", L + 1)])) Q E s := by
  have F1 := kst_self F (ps := [(Str.ofString "wishes", .ref W), (Str.ofString "words", .ref WD), (Str.ofString "told", .ref TT)]) (all_cons va0 (all_cons va1 (all_cons va2 all_nil)))
  clear F
  have hIl : (ws.map fun (x : Nat) => (x : Int)).length = 5 := by rw [List.length_map, h5]
  have hz1 : ∀ (r : Nat → Bool) (ss : List Str), ss.map tl = rowT r → (ss.map (·.length)).sum + ss.length ≤ 1000000 := fun r ss h => by
    have h1 : ∀ x ∈ ss, x.length ≤ 1 := fun x hx => by
      have h2 : tl x ∈ rowT r := by rw [← h]; exact List.mem_map.mpr ⟨x, hx, rfl⟩
      obtain ⟨j, _, e⟩ := List.mem_map.mp h2
      rw [← tl_len, ← e]; exact Nat.le_refl _
    have h3 := sum_le h1
    have h4 : ss.length = 5 := by rw [← List.length_map (f := tl), h, rowT_len]
    lia
  revert X
  k_fill
  intro X
  conv in (execs _ _) => (arg 1; whnf)
  conv in (envX _ _ _ _ _ _) => (arg 2; whnf)
  walk_at "go"
  rotate_left
  · exfalso
    rename grT _ = false => hf
    rename List.Perm _ _ => hp
    rename List.Pairwise _ _ => ho
    rw [graph_is h5 hp ho, ← I.gr] at hf
    exact absurd (eg_nil.symm.trans hf) (by decide)
  refine Halt.out ?_
  (try dsimp only)
  rename Fr _ _ _ _ => F2
  rename News _ _ _ _ => N2
  refine compLA_st (σ := Unit) (vs := ra.map Value.ref) (k := kw) (Led := fun _ => _) (P := fun j ys _ => ∃ ss, StrsAre ys ss ∧ ss.map tl = (List.range j).map fun k => txt (G k)) () rfl F2 N2 (fun _ => .tail _ (.tail _ hWD)) (by rw [List.length_map]; lia) ⟨[], .nil, rfl⟩ ?t1 ?f1
  case t1 =>
    rintro g j v ys c9 I9 oI9 C9 oC9 D9 m9 h9 tk9 E9 Qe hj hv ⟨ss, hS8, hT8⟩ hNs hx F9 N9 hoff9 hne9 hQe
    rw [List.length_map] at hj
    have hj5 : j < 5 := by lia
    have hjr : j < rc.length := by rw [hG.1]; exact hj5
    rw [List.getElem?_map, List.getElem?_eq_getElem hj] at hv
    have hv' : Value.ref ra[j] = v := Option.some.inj hv
    subst hv'
    obtain ⟨us, s9, eo, hs9, ht9⟩ := hG.2 j _ (List.getElem?_eq_getElem hjr)
    have hrm : (ra[j], listOf (List.toArray us) 0) ∈ news := by
      refine hrows _ (List.mem_iff_getElem?.mpr ⟨j, ?_⟩)
      rw [List.getElem?_zip_eq_some]
      exact ⟨List.getElem?_eq_getElem hj, by rw [List.getElem?_eq_getElem hjr, eo]⟩
    have hz9 := hz1 _ _ ht9
    generalize ra[j] = D8 at *
    dsimp only at N9
    walk_at "go"
    refine hQe _ () _ _ ⟨ss ++ [_], strs_snoc hS8, ?_⟩ (by assumption) (by assumption) hoff9
    rw [List.map_append, hT8, List.map_singleton, List.range_succ, List.map_append, List.map_singleton, empty_str, tl_join, ht9]
    rfl
  case f1 =>
  rintro xv c9 TX h9 tk9 ⟨ts, hTs, hTt⟩ F9 N9 hoff9
  dsimp only at hTs hTt F9 N9 hoff9 ⊢
  rw [List.length_map, hra5] at hTt
  have hts5 : ts.length = 5 := by have := congrArg List.length hTt; rwa [List.length_map, List.length_map, List.length_range] at this
  have hms5 : ms.length = 5 := by have := congrArg List.length hms; rwa [List.length_map, List.length_map, List.length_range] at this
  have hes5 : es.length = 5 := by have := congrArg List.length hes; rwa [List.length_map, List.length_map, List.length_range] at this
  (try clear F2); (try clear N2)
  walk_at "go"
  refine Halt.out ?_
  refine wpAny_execs_cons ?_
  walk_at "go"
  refine Halt.out ?_
  rename IsRange _ _ _ _ _ _ _ _ => R3
  rename Fr _ _ _ _ => F3
  rename News _ _ _ _ => N3
  obtain ⟨tw0, eW0⟩ := fr_int F3 (Str.ofString "ways") 0 rfl
  refine iter_up_st (n := 5) (σ := Int × Tok) (fun c => [(Str.ofString "wishes", .ref W), (Str.ofString "words", .ref WD), (Str.ofString "told", .ref TT), (Str.ofString "texts", .ref TX), (Str.ofString "ways", .int c.1 c.2)]) (fun _ => (TX, LCg.lst xv) :: (L + 1 + 1, oM) :: (L + 1, oE) :: news) (fun k c => c.1 = (ways1 G k : Int)) (0, tw0) rfl R3 rfl (by lia) F3 N3 (fun _ h => h) (all_cons rfl (all_cons rfl (all_cons rfl (all_cons rfl (all_cons eW0 all_nil))))) rfl ?turn ?done
  case done =>
    (try clear F3); (try clear N3); (try clear R3)
    rintro ⟨wy, tw9⟩ u h tk p1 F4 N4
    dsimp only at p1 F4 N4
    walk_at "go"
    refine Halt.out ?_
    (try dsimp only)
    rename Fr _ _ _ _ => F5
    rename News _ _ _ _ => N5
    have hwl : wv.length = 5 := by rw [hIw.length, hIl]
    refine compL_st (σ := Unit) (vs := wv) (k := k4) (Led := fun _ => _) (P := fun j ys _ => IntsAre ys ((ws.take j).map fun (x : Nat) => (x : Int) * (5 - (x : Int)))) () rfl F5 N5 (fun _ => .tail _ (.tail _ (.tail _ hW))) (by lia) .nil ?t5 ?f5
    case t5 =>
      rintro g j v ys c9 I9 oI9 C9 oC9 D9 m9 h9 tk9 E9 Qe hj hv hI9 hNs hx F9 N9 hoff9 hne9 hQe
      obtain ⟨t9, rfl⟩ := nats_at hIw hv
      have hjw : j < ws.length := by lia
      have hx4 : ws.getD j 0 ≤ 4 := by
        rw [List.getD_eq_getElem?_getD, List.getElem?_eq_getElem hjw]; exact hw4 _ (List.getElem_mem _)
      dsimp only at N9
      walk_at "go"
      refine hQe _ () _ _ ?_ (by assumption) (by assumption) hoff9
      show IntsAre _ ((ws.take (j + 1)).map fun (x : Nat) => (x : Int) * (5 - (x : Int)))
      rw [take_snoc (d := 0) hjw, List.map_append]
      exact hI9.append (.cons _ _ .nil)
    case f5 =>
    rintro yv c9 D5 h9 tk9 hI9 F9 N9 hoff9
    dsimp only at hI9 N9 hoff9 ⊢
    rw [hwl, List.take_of_length_le (by lia)] at hI9
    walk_at "go"
    have hfin : (wy == (ws.map fun (x : Nat) => (x : Int) * (5 - (x : Int))).sum) = true := by
      rw [p1, sum_ws h5 hw4 fun k hk => (I.off k hk (by simp)).1, ways_is I.sym]; simp
    rw [hfin]
    exact hQ _ _ _ (by assumption)
  case turn =>
    (try clear F3); (try clear N3); (try clear R3)
    rintro I9 k t ⟨wy, tw9⟩ u h tk own Qn hlt hk5 p1 hoff hoI hown F4 N4 hQn
    dsimp only at p1 hoff F4 N4 hQn
    simp only [List.cons_append] at N4
    obtain ⟨hdk, hle⟩ := I.off k hk5 (by simp)
    have hwk : ws.getD k 0 ≤ 4 := by
      rw [List.getD_eq_getElem?_getD, List.getElem?_eq_getElem (by lia)]; exact hw4 _ (List.getElem_mem _)
    have hbk := I.moff k hk5 (by simp)
    obtain ⟨g, hg⟩ : ∃ g, g = ws.getD k 0 - tw.getD k 0 := ⟨_, rfl⟩
    rw [← hg] at hbk
    have htk : tl (ts.getD ((k : Nat) : Int).toNat (Str.ofString "")) = txt (G k) := by rw [Int.toNat_natCast, tl_getD _ (by lia), hTt, List.getD_eq_getElem?_getD, List.getElem?_map, List.getElem?_range hk5]; rfl
    have htl : (ts.getD ((k : Nat) : Int).toNat (Str.ofString "")).length = 5 := by rw [← tl_len, htk, txt_len]
    have hok : tl (Str.ofString "abcde") ≠ tl (ts.getD ((k : Nat) : Int).toNat (Str.ofString "")) → LevOk (tl (Str.ofString "abcde")) (tl (ts.getD ((k : Nat) : Int).toNat (Str.ofString ""))) := by rw [htk, low_str]; exact lev_txt.2
    have hlv : levT (tl (Str.ofString "abcde")) (tl (ts.getD ((k : Nat) : Int).toNat (Str.ofString ""))) = (ws.getD k 0 : Int) := by rw [htk, low_str, lev_txt.1, cnt_low, hdk]
    have hmk : tl (ms.getD ((k : Nat) : Int).toNat (Str.ofString "")) = List.replicate (1 + g) 46 ++ [97 + k] ++ (if g > 0 then [13, 10] else en k) := by
      rw [Int.toNat_natCast, tl_getD _ (by lia), hms, List.getD_eq_getElem?_getD, List.getElem?_map, List.getElem?_range hk5]
      show (bm k).1 ++ (bm k).2 = _
      rw [hbk]; rfl
    have hek : tl (es.getD ((k : Nat) : Int).toNat (Str.ofString "")) = en k := by
      rw [Int.toNat_natCast, tl_getD _ (by lia), hes, List.getD_eq_getElem?_getD, List.getElem?_map, List.getElem?_range hk5]; rfl
    have hel : (es.getD ((k : Nat) : Int).toNat (Str.ofString "")).length ≤ 2 := by
      rw [← tl_len, hek]
      rcases hen k hk5 with e | e | e <;> rw [e] <;> decide
    obtain ⟨hA1, hA2⟩ := tl_low k hk5
    have htw5 := I.tl5
    (try dsimp only); (try k_fold)
    walk_at "go"
    refine Halt.out ?_
    refine g_muldots (g := g) (by lia) (by lia) ?_
    intro t9 k9 zd hzd
    have hzl : zd.length ≤ 6 := by rw [← tl_len, hzd, List.length_replicate]; lia
    have hcr : tl (Str.ofString "\x0d\n") = [13, 10] := by decide +kernel
    walk_at "go"
    · exfalso
      rename (_ != _) = true => ha
      refine absurd ha ?_
      have e : ms.getD ((k : Nat) : Int).toNat (Str.ofString "") = zd ++ Txt.item (Str.ofString "abcde") ((k : Nat) : Int) ++ Str.ofString "\x0d\n" := tl_ext (by rw [hmk, tl_app, tl_app, hzd, hA1, hcr, if_pos (by lia)])
      rw [e]; simp
    · exfalso
      exact (by assumption : levT _ _ ≠ _) hlv
    rotate_left
    · exfalso
      rename (_ != _) = true => ha
      refine absurd ha ?_
      have e : ms.getD ((k : Nat) : Int).toNat (Str.ofString "") = zd ++ Txt.item (Str.ofString "abcde") ((k : Nat) : Int) ++ es.getD ((k : Nat) : Int).toNat (Str.ofString "") := tl_ext (by rw [hmk, tl_app, tl_app, hzd, hA1, hek, if_neg (by lia)])
      rw [e]; simp
    · exfalso
      exact (by assumption : levT _ _ ≠ _) hlv
    all_goals
      refine Halt.out ?_
      refine wpAny_execs_cons ?_
      walk_at "go"
      refine Halt.out ?_
      rename IsRange _ _ _ _ _ _ _ _ => R5
      rename Fr _ _ _ _ => F5
      rename News _ _ _ _ => N5
      refine iter_up_st (n := k) (σ := Int × Tok) (fun c => [(Str.ofString "wishes", .ref W), (Str.ofString "words", .ref WD), (Str.ofString "told", .ref TT), (Str.ofString "texts", .ref TX), (Str.ofString "k", .int ((k : Nat) : Int) t), (Str.ofString "ways", .int c.1 c.2)]) (fun _ => (TX, LCg.lst xv) :: (L + 1 + 1, oM) :: (L + 1, oE) :: (news ++ own)) (fun j c => c.1 = ((ways1 G k + ways2 G k j : Nat) : Int)) (wy, tw9) rfl R5 rfl (by lia) F5 N5 (fun _ h => h) (all_cons rfl (all_cons rfl (all_cons rfl (all_cons rfl (all_cons rfl (all_cons rfl all_nil)))))) (by show wy = _; rw [p1]; rfl) ?turn2 ?done2
      case done2 =>
        rintro ⟨wz, tz⟩ u6 h6 tk6 p2 F6 N6
        dsimp only at p2 F6 N6
        walk_at "go"
        refine Halt.out ?_
        show Qn _
        rename Fr _ _ _ _ => F7
        refine hQn (wz, tz) _ _ _ _ p2 hoff F7 (all_cons rfl (all_cons rfl (all_cons rfl (all_cons rfl (all_cons rfl all_nil))))) N6 (fun _ h => h)
      case turn2 =>
        rintro I2 j t2 ⟨wz, tz⟩ u6 h6 tk6 own6 Qn6 hlt6 hj6 p2 hoff6 hoI6 hown6 F6 N6 hQn6
        dsimp only at p2 hoff6 F6 N6 hQn6
        simp only [List.cons_append] at N6
        have hj5 : j < 5 := by lia
        have htj : tl (ts.getD ((j : Nat) : Int).toNat (Str.ofString "")) = txt (G j) := by rw [Int.toNat_natCast, tl_getD _ (by lia), hTt, List.getD_eq_getElem?_getD, List.getElem?_map, List.getElem?_range hj5]; rfl
        have htjl : (ts.getD ((j : Nat) : Int).toNat (Str.ofString "")).length = 5 := by rw [← tl_len, htj, txt_len]
        have hok2 : tl (ts.getD ((j : Nat) : Int).toNat (Str.ofString "")) ≠ tl (ts.getD ((k : Nat) : Int).toNat (Str.ofString "")) → LevOk (tl (ts.getD ((j : Nat) : Int).toNat (Str.ofString ""))) (tl (ts.getD ((k : Nat) : Int).toNat (Str.ofString ""))) := by rw [htk, htj]; exact lev_txt.2
        have hlv2 : levT (tl (ts.getD ((j : Nat) : Int).toNat (Str.ofString ""))) (tl (ts.getD ((k : Nat) : Int).toNat (Str.ofString ""))) = ((cnt (G j) (G k) : Nat) : Int) := by rw [htk, htj, lev_txt.1]
        (try dsimp only); (try k_fold)
        walk_at "go"
        refine Halt.out ?_
        show Qn6 _
        rename Fr _ _ _ _ => F7
        rename News _ _ _ _ => N7
        rw [hlv2] at F7
        obtain ⟨tt7, e7⟩ := fr_int F7 (Str.ofString "ways") (wz + ((cnt (G j) (G k) : Nat) : Int)) rfl
        refine hQn6 (wz + ((cnt (G j) (G k) : Nat) : Int), tt7) _ _ _ _ (by show wz + _ = ((ways1 G k + (ways2 G k j + cnt (G j) (G k)) : Nat) : Int); lia) hoff6 F7 (all_cons rfl (all_cons rfl (all_cons rfl (all_cons rfl (all_cons rfl (all_cons e7 all_nil)))))) N7 (fun _ h => h)
end
end
section
open PySem PySem.W PyProof.Rows PySem.Flt
local macro_rules | `(tactic| walk_at "execs cons") => `(tactic| ((with_reducible show wpAny _ _ (execs (Stmt.For _ _ _ _ _ :: _) _) _ _ _); refine Halt.mk ?_))
section
variable {w : World} {mean : ExcName → Option Value} {mg mb : Str → Option Value} {dp un : Nat} {gd : Option (List Code)} {cn : Str} {cs : Scope} {a : Addr} {ccd : Value} {cl : List (Str × Addr)} {outer : List Env} {A₀ : Around} {base h₀ : Heap} {L : Addr} {m : Str → Option Value} {news : List (Addr × Obj)} {s : Shared} {Q : Flow → Shared → Prop} {E : Value → Shared → Prop}
set_option maxRecDepth 100000
set_option maxHeartbeats 8000000

theorem seg_told {S W WD : Addr} {st pa tn : Nat} {t1 t2 t3 : Tok} (B : Below A₀ base outer h₀) (F : Fr h₀ L s.heap m) (X : (Mine.hd.heap_39 w.params).In h₀) (N : News h₀ L s.heap news) (T : Top Mine.hd.view_39 looseL mean mg mb h₀) (hd : dp + 40 < recursionLimit) (hE : PassesOwn (model Challenge.rw_sc0061_01.row.prog w) (ktrTop dp un gd (Str.ofString "law") lawScope L a ccd [(Str.ofString "mails", L + 1 + 1), (Str.ofString "ends", L + 1)] outer) (envX (Str.ofString "law") lawScope L a ccd [(Str.ofString "mails", L + 1 + 1), (Str.ofString "ends", L + 1)]) E) (va0 : m (Str.ofString "wishes") = some (.ref W)) (va1 : m (Str.ofString "turns") = some (.int (tn : Int) t1)) (va2 : m (Str.ofString "start") = some (.int (st : Int) t2)) (va3 : m (Str.ofString "part") = some (.int ((pa + 1 : Nat) : Int) t3)) (va4 : m (Str.ofString "words") = some (.ref WD)) (va5 : m (Str.ofString "shelf") = some (.ref S))
    (hQ : ∀ h' tk m' TT tv, Fr h₀ L h' m' → m' (Str.ofString "wishes") = some (.ref W) → m' (Str.ofString "turns") = some (.int (tn : Int) t1) → m' (Str.ofString "start") = some (.int (st : Int) t2) → m' (Str.ofString "part") = some (.int ((pa + 1 : Nat) : Int) t3) → m' (Str.ofString "words") = some (.ref WD) → m' (Str.ofString "shelf") = some (.ref S) → m' (Str.ofString "told") = some (.ref TT) → News h₀ L h' ((TT, listOf (List.toArray tv) 0) :: news) → IntsAre tv ([0, 0, 0, 0, 0].map fun (x : Nat) => (x : Int)) → (∀ p ∈ news, p.1 < TT) → wpAny (model Challenge.rw_sc0061_01.row.prog w) (ktrTop dp un gd (Str.ofString "law") lawScope L a ccd [(Str.ofString "mails", L + 1 + 1), (Str.ofString "ends", L + 1)] outer) (execs (lawBody.drop 12) (envX (Str.ofString "law") lawScope L a ccd [(Str.ofString "mails", L + 1 + 1), (Str.ofString "ends", L + 1)])) Q E { s with heap := h', toks := tk })
    : wpAny (model Challenge.rw_sc0061_01.row.prog w) (ktrTop dp un gd (Str.ofString "law") lawScope L a ccd [(Str.ofString "mails", L + 1 + 1), (Str.ofString "ends", L + 1)] outer) (execs (lawBody.drop 11) (envX (Str.ofString "law") lawScope L a ccd [(Str.ofString "mails", L + 1 + 1), (Str.ofString "ends", L + 1)])) Q E s := by
  have F1 := kst_self F (ps := [(Str.ofString "wishes", .ref W), (Str.ofString "turns", .int (tn : Int) t1), (Str.ofString "start", .int (st : Int) t2), (Str.ofString "part", .int ((pa + 1 : Nat) : Int) t3), (Str.ofString "words", .ref WD), (Str.ofString "shelf", .ref S)]) (all_cons va0 (all_cons va1 (all_cons va2 (all_cons va3 (all_cons va4 (all_cons va5 all_nil))))))
  clear F
  revert X
  k_fill
  intro X
  conv in (execs _ _) => (arg 1; whnf)
  conv in (envX _ _ _ _ _ _) => (arg 2; whnf)
  walk_at "go"
  refine Halt.out ?_
  rename Fr _ _ _ _ => F8
  rename News _ _ _ _ => N8
  rename _ ∧ AllLt _ _ => l9
  exact hQ _ _ _ _ _ F8 rfl rfl rfl rfl rfl rfl rfl (Mine.News.sub N8 fun p hp => (List.mem_cons.mp hp).elim (fun e => e ▸ .head _) fun q => .tail _ (.tail _ q)) (.cons _ _ (.cons _ _ (.cons _ _ (.cons _ _ (.cons _ _ .nil))))) (ktn_ltOf l9.2)
end
end
section
open PySem PySem.W PyProof.Rows PySem.Flt
section
variable {w : World} {mean : ExcName → Option Value} {mg mb : Str → Option Value} {dp un : Nat} {gd : Option (List Code)} {cn : Str} {cs : Scope} {a : Addr} {ccd : Value} {cl : List (Str × Addr)} {outer : List Env} {A₀ : Around} {base h₀ : Heap} {L : Addr} {m : Str → Option Value} {news : List (Addr × Obj)} {s : Shared} {Q : Flow → Shared → Prop} {E : Value → Shared → Prop}
set_option maxRecDepth 100000
set_option maxHeartbeats 8000000

theorem range_getD {l : List (List Nat)} (h : l.length = 5) : (List.range 5).map (fun k => l.getD k []) = l := by
  match l, h with
  | [a, b, c, d, e], _ => rfl
theorem endT_is (x : Int) : IsE (endT x) := by
  unfold endT
  split
  · exact .inl rfl
  · split
    · exact .inr (.inl rfl)
    · exact .inr (.inr rfl)
theorem wish_nat (x : Int) : wishF x = (((wishF x).toNat : Nat) : Int) ∧ (wishF x).toNat ≤ 4 := by
  unfold wishF; lia
theorem law_walk {S0 : Addr} {ss : List Value} {ns : List Int} {oM oE : Obj} (B : Below A₀ base outer h₀) (F : Fr h₀ L s.heap m) (X : (Mine.hd.heap_39 w.params).In h₀) (N : News h₀ L s.heap [(L + 1 + 1, oM), (L + 1, oE)]) (T : Top Mine.hd.view_39 looseL mean mg mb h₀) (hd : dp + 40 < recursionLimit) (hE : PassesOwn (model Challenge.rw_sc0061_01.row.prog w) (ktrTop dp un gd (Str.ofString "law") lawScope L a ccd [(Str.ofString "mails", L + 1 + 1), (Str.ofString "ends", L + 1)] outer) (envX (Str.ofString "law") lawScope L a ccd [(Str.ofString "mails", L + 1 + 1), (Str.ofString "ends", L + 1)]) E) (vs0 : m (Str.ofString "script") = some (.ref S0)) (hS0 : h₀.IsList S0 ss.toArray) (hI0 : IntsAre ss ns) (hz0 : ss.length ≤ 63) (hM0 : oM.data = .cell none) (hE0 : oE.data = .cell none) (hun : un < cLine)
    (hQ : ∀ h' tk m', Fr h₀ L h' m' → Q (.ret (.bool true)) { s with heap := h', toks := tk }) :
    wpAny (model Challenge.rw_sc0061_01.row.prog w) (ktrTop dp un gd (Str.ofString "law") lawScope L a ccd [(Str.ofString "mails", L + 1 + 1), (Str.ofString "ends", L + 1)] outer) (execs (lawBody.drop 0) (envX (Str.ofString "law") lawScope L a ccd [(Str.ofString "mails", L + 1 + 1), (Str.ofString "ends", L + 1)])) Q E s := by
  refine seg_h1 (by assumption) F (by assumption) N (by assumption) hd hE vs0 hS0 hI0 hz0 ?_
  intro h1 k1 D n dv ds m1 F1 a1 N1 l1 hIs h7 hp
  refine seg_h2 (by assumption) F1 (by assumption) N1 (by assumption) hd hE a1 hIs h7 hp hM0 hE0 (l1 _ (.head _)) ?_
  intro h2 k2' m2 S wv ev es mv ms c WD M EA W oM' oE' j1 j2 j3 j4 t1 t2 t3 F2 b1 b2 b3 b4 b5 b6 N2 hnd hdM hdE hIw hEv hes hMv hms hc5 hrow
  have hp5 : 0 ≤ ds.getD 5 0 := by rw [List.getD_eq_getElem?_getD, List.getElem?_eq_getElem (by lia)]; exact hp _ (List.getElem_mem _)
  have hp6 : 0 ≤ ds.getD 6 0 := by rw [List.getD_eq_getElem?_getD, List.getElem?_eq_getElem (by lia)]; exact hp _ (List.getElem_mem _)
  obtain ⟨tn, htn⟩ : ∃ tn : Nat, ds.getD 5 0 = (tn : Int) := ⟨_, (Int.toNat_of_nonneg hp5).symm⟩
  obtain ⟨st, hst, hst8⟩ : ∃ st : Nat, ds.getD 6 0 % 8 = (st : Int) ∧ st < 8 := ⟨(ds.getD 6 0 % 8).toNat, by lia, by lia⟩
  obtain ⟨pa, hpa, hpa4⟩ : ∃ pa : Nat, ds.getD 6 0 / 8 % 4 + 1 = ((pa + 1 : Nat) : Int) ∧ pa < 4 := ⟨(ds.getD 6 0 / 8 % 4).toNat, by lia, by lia⟩
  rw [htn] at b2
  rw [hst] at b3
  rw [hpa] at b4
  have h5 : (ds.take 5).length = 5 := by rw [List.length_take, h7]; rfl
  obtain ⟨ws, hws⟩ : ∃ ws, ws = (ds.take 5).map fun x => (wishF x).toNat := ⟨_, rfl⟩
  have hw5 : ws.length = 5 := by rw [hws, List.length_map, h5]
  have hw4 : ∀ x ∈ ws, x ≤ 4 := fun x hx => by
    rw [hws] at hx
    obtain ⟨y, _, rfl⟩ := List.mem_map.mp hx
    exact (wish_nat y).2
  have hIws : IntsAre wv (ws.map fun (x : Nat) => (x : Int)) := by
    have e : (ws.map fun (x : Nat) => (x : Int)) = (ds.take 5).map wishF := by
      rw [hws, List.map_map]
      exact List.map_congr_left fun x _ => (wish_nat x).1.symm
    rw [e]; exact hIw
  refine seg_s (by assumption) F2 (by assumption) N2 (by assumption) hd hE b1 b2 b3 b4 b5 b6 (.tail _ (List.mem_append_right _ (.tail _ (.tail _ (.head _))))) hIws hw5 hw4 hnd hst8 hpa4 ?_
  intro h3 k3' m3 sv sn lp F3 c1 c2 c3 c4 c5 c6 N3 hnd3 hSh
  refine seg_told (by assumption) F3 (by assumption) N3 (by assumption) hd hE c1 c2 c3 c4 c5 c6 ?_
  intro h4 k4' m4 TT tv F4 d1 d2 d3 d4 d5 d6 d7 N4 hIt hTT
  obtain ⟨ra, hra⟩ : ∃ ra, ra = c.reverse.map (·.1) := ⟨_, rfl⟩
  obtain ⟨rc, hrc⟩ : ∃ rc, rc = c.reverse.map (·.2) := ⟨_, rfl⟩
  have hzip : ra.zip rc = c.reverse := by rw [hra, hrc]; exact (List.zip_of_prod rfl rfl).symm
  have hrefs : (c.map fun p => Value.ref p.1).reverse = ra.map Value.ref := by rw [hra, List.map_map, ← List.map_reverse]; rfl
  have hzc : ∀ p ∈ ra.zip rc, p ∈ c := by rw [hzip]; exact fun p h => List.mem_reverse.mp h
  have hra5 : ra.length = 5 := by rw [hra, List.length_map, List.length_reverse, hc5]
  obtain ⟨en, hen⟩ : ∃ en : Nat → List Nat, en = fun k => ((ds.take 5).map endT).getD k [] := ⟨_, rfl⟩
  have henE : ∀ k, k < 5 → IsE (en k) := fun k hk => by
    rw [hen]
    show IsE (((ds.take 5).map endT).getD k [])
    rw [List.getD_eq_getElem?_getD, List.getElem?_map, List.getElem?_eq_getElem (by lia)]
    exact endT_is _
  have hms' : ms.map tl = (List.range 5).map fun k => (mailOf en k 0).1 ++ (mailOf en k 0).2 := by rw [hms, hen]; rfl
  have hes' : es.map tl = (List.range 5).map en := by rw [hes, hen]; exact (range_getD (by rw [List.length_map, h5])).symm
  have hG : Rows rc fun _ _ => false := by
    refine ⟨by rw [hrc, List.length_map, List.length_reverse, hc5], fun k o hk => ?_⟩
    have hm := List.mem_of_getElem? hk
    rw [hrc] at hm
    obtain ⟨p, hp, rfl⟩ := List.mem_map.mp hm
    obtain ⟨us, e1, s1, e2, e3⟩ := hrow p (List.mem_reverse.mp hp)
    exact ⟨us, s1, e1, e2, by rw [e3]; rfl⟩
  have hnd9 : (S :: (lp.map (·.1) ++ (WD :: (c.map (·.1) ++ [M, EA, W, L + 1 + 1, L + 1])))).Nodup := by
    have := hnd3
    rw [List.map_append, List.map_cons, List.map_append] at this
    exact this
  obtain ⟨q1, q2⟩ := List.nodup_cons.mp hnd9
  obtain ⟨_, q3, q4⟩ := List.nodup_append.mp q2
  obtain ⟨q5, q6⟩ := List.nodup_cons.mp q3
  obtain ⟨q7, q8, q9⟩ := List.nodup_append.mp q6
  obtain ⟨r1, r2⟩ := List.nodup_cons.mp q8
  obtain ⟨r3, r4⟩ := List.nodup_cons.mp r2
  obtain ⟨r5, r6⟩ := List.nodup_cons.mp r4
  obtain ⟨r7, r8⟩ := List.nodup_cons.mp r6
  have hrac : ∀ a, a ∈ ra ↔ a ∈ c.map (·.1) := fun a => by rw [hra, List.map_reverse, List.mem_reverse]
  have hTTa : ∀ a, a ∈ S :: (lp.map (·.1) ++ (WD :: (c.map (·.1) ++ [M, EA, W, L + 1 + 1, L + 1]))) → a ≠ TT := fun a ha => by
    have h9 : ((S, listOf (List.toArray sv) sn) :: (lp ++ ((WD, listOf (List.toArray (c.map fun p => Value.ref p.1).reverse) j1) :: (c ++ [(M, listOf (List.toArray mv) j2), (EA, listOf (List.toArray ev) j3), (W, listOf (List.toArray wv) j4), (L + 1 + 1, oM'), (L + 1, oE')])))).map (·.1) = S :: (lp.map (·.1) ++ (WD :: (c.map (·.1) ++ [M, EA, W, L + 1 + 1, L + 1]))) := by
      rw [List.map_cons, List.map_append, List.map_cons, List.map_append]; rfl
    rw [← h9] at ha
    obtain ⟨p, hp9, rfl⟩ := List.mem_map.mp ha
    exact Nat.ne_of_lt (hTT p hp9)
  have mem1 : ∀ a, a ∈ WD :: (c.map (·.1) ++ [M, EA, W, L + 1 + 1, L + 1]) → a ≠ S := fun a ha e => q1 (e ▸ List.mem_append_right _ ha)
  have inT : ∀ a, a ∈ [M, EA, W, L + 1 + 1, L + 1] → a ∈ WD :: (c.map (·.1) ++ [M, EA, W, L + 1 + 1, L + 1]) := fun a ha => .tail _ (List.mem_append_right _ ha)
  have inC : ∀ a, a ∈ c.map (·.1) → a ∈ WD :: (c.map (·.1) ++ [M, EA, W, L + 1 + 1, L + 1]) := fun a ha => .tail _ (List.mem_append_left _ ha)
  have hMin : M ∈ [M, EA, W, L + 1 + 1, L + 1] := .head _
  have hLin : L + 1 + 1 ∈ [M, EA, W, L + 1 + 1, L + 1] := .tail _ (.tail _ (.tail _ (.head _)))
  have hnotra : ∀ a, a ∈ [M, EA, W, L + 1 + 1, L + 1] → a ∉ ra := fun a ha hm => q9 a ((hrac a).mp hm) a ha rfl
  have hAD : ∀ a, a ≠ TT → a ≠ M → a ≠ L + 1 + 1 → a ∉ ra → a ∉ [TT, M, L + 1 + 1] ++ ra := fun x a1 a2 a3 a4 h => by
    rcases List.mem_append.mp h with q | q
    · simp only [List.mem_cons, List.not_mem_nil, or_false] at q
      rcases q with q | q | q
      · exact a1 q
      · exact a2 q
      · exact a3 q
    · exact a4 q
  have N4' := Mine.News.sub (news := (S, listOf (List.toArray sv) sn) :: (TT, listOf (List.toArray tv) 0) :: (M, listOf (List.toArray mv) j2) :: (L + 1 + 1, oM') :: (ra.zip rc ++ (lp ++ [(WD, listOf (List.toArray (ra.map Value.ref)) j1), (EA, listOf (List.toArray ev) j3), (W, listOf (List.toArray wv) j4), (L + 1, oE')]))) (hrefs ▸ N4) (by walk_at "sub")
  refine seg_loop (ws := ws) (en := en) (by assumption) F4 (by assumption) N4' (by assumption) hd hE d1 d2 d3 d4 d5 d6 d7 hun (List.mem_append_right _ (.tail _ (.tail _ (.head _)))) hIws hw5 hw4 (List.mem_append_right _ (.head _)) hst8 hpa4
    (hSh.mono fun p hp => List.mem_append_left _ hp) hIt hG hMv hms' henE hdM hra5 ?nd ?hs1 (fun p hp => ?hbs) (fun h' tk m' F' => hQ h' tk m' F') ?e
  case nd =>
    refine List.nodup_cons.mpr ⟨fun h => ?_, List.nodup_cons.mpr ⟨fun h => ?_, List.nodup_cons.mpr ⟨fun h => hnotra _ hLin h, ?_⟩⟩⟩
    · rcases List.mem_cons.mp h with e | h
      · exact hTTa M (.tail _ (List.mem_append_right _ (inT _ hMin))) e.symm
      · rcases List.mem_cons.mp h with e | h
        · exact hTTa _ (.tail _ (List.mem_append_right _ (inT _ hLin))) e.symm
        · exact hTTa TT (.tail _ (List.mem_append_right _ (inC _ ((hrac TT).mp h)))) rfl
    · rcases List.mem_cons.mp h with e | h
      · exact r1 (e ▸ .tail _ (.tail _ (.head _)))
      · exact hnotra M hMin h
    · rw [hra, List.map_reverse]; exact (List.Perm.nodup_iff (List.reverse_perm _)).mpr q7
  case hs1 =>
    exact hAD S (hTTa S (.head _)) (fun e => mem1 M (inT _ hMin) e.symm) (fun e => mem1 _ (inT _ hLin) e.symm) (fun h => mem1 S (inC _ ((hrac S).mp h)) rfl)
  case hbs =>
    rcases List.mem_append.mp hp with q | q
    · have hpl : p.1 ∈ lp.map (·.1) := List.mem_map.mpr ⟨p, q, rfl⟩
      exact ⟨hAD _ (hTTa _ (.tail _ (List.mem_append_left _ hpl))) (q4 _ hpl _ (inT _ hMin)) (q4 _ hpl _ (inT _ hLin)) (fun h => q4 _ hpl _ (inC _ ((hrac _).mp h)) rfl), fun e => q1 (e ▸ List.mem_append_left _ hpl)⟩
    · have hone : ∀ a, a ∈ [EA, W, L + 1] → a ≠ TT ∧ a ≠ M ∧ a ≠ L + 1 + 1 ∧ a ∉ ra ∧ a ≠ S := fun a ha => by
        have hat : a ∈ [M, EA, W, L + 1 + 1, L + 1] := by
          simp only [List.mem_cons, List.not_mem_nil, or_false] at ha ⊢
          rcases ha with h | h | h <;> simp [h]
        refine ⟨hTTa _ (.tail _ (List.mem_append_right _ (inT _ hat))), fun e => ?_, fun e => ?_, hnotra a hat, mem1 _ (inT _ hat)⟩
        · subst e
          simp only [List.mem_cons, List.not_mem_nil, or_false] at ha
          rcases ha with h | h | h
          · exact r1 (h ▸ .head _)
          · exact r1 (h ▸ .tail _ (.head _))
          · exact r1 (h ▸ .tail _ (.tail _ (.tail _ (.head _))))
        · subst e
          simp only [List.mem_cons, List.not_mem_nil, or_false] at ha
          rcases ha with h | h | h
          · exact r3 (h ▸ .tail _ (.head _))
          · exact r5 (h ▸ .head _)
          · exact absurd h (Nat.ne_of_gt (Nat.lt_succ_self _))
      have fin : ∀ a, a ∈ [EA, W, L + 1] → a ∉ [TT, M, L + 1 + 1] ++ ra ∧ a ≠ S := fun a ha => by
        obtain ⟨z1, z2, z3, z4, z5⟩ := hone a ha
        exact ⟨hAD a z1 z2 z3 z4, z5⟩
      simp only [List.mem_cons, List.not_mem_nil, or_false] at q
      rcases q with rfl | rfl | rfl | rfl
      · refine ⟨hAD _ (hTTa _ (.tail _ (List.mem_append_right _ (.head _)))) (fun e => q5 (by rw [show WD = M from e]; exact List.mem_append_right _ hMin)) (fun e => q5 (by rw [show WD = L + 1 + 1 from e]; exact List.mem_append_right _ hLin)) (fun h => q5 (List.mem_append_left _ ((hrac _).mp h))), mem1 _ (.head _)⟩
      · exact fin EA (.head _)
      · exact fin W (.tail _ (.head _))
      · exact fin _ (.tail _ (.tail _ (.head _)))
  case e =>
    intro h5' k5' m5 tv' tw mv' ms' rc' G bm lp2 F5 e1 e2 e3 N5 hIt2 hMv2 hms2 hG2 I2
    have N5' := Mine.News.sub (news := (L + 1 + 1, oM') :: (L + 1, oE') :: ((TT, listOf (List.toArray tv') 0) :: (M, listOf (List.toArray mv') j2) :: (ra.zip rc' ++ (lp2 ++ (lp ++ [(WD, listOf (List.toArray (ra.map Value.ref)) j1), (EA, listOf (List.toArray ev) j3), (W, listOf (List.toArray wv) j4), (L + 1, oE')]))))) N5 (by walk_at "sub")
    refine seg_e (ws := ws) (en := en) (by assumption) F5 (by assumption) N5' (by assumption) hd hE e1 e2 e3 (.tail _ (.tail _ (List.mem_append_right _ (List.mem_append_right _ (List.mem_append_right _ (.tail _ (.tail _ (.head _)))))))) hIws hw5 hw4
      (.tail _ (.tail _ (List.mem_append_right _ (List.mem_append_right _ (List.mem_append_right _ (.head _)))))) (.head _) hIt2 (.tail _ (.head _)) hMv2 hms2 (.tail _ (.tail _ (List.mem_append_right _ (List.mem_append_right _ (List.mem_append_right _ (.tail _ (.head _)))))) ) hEv hes' henE hdM hdE hra5
      (fun p hp => .tail _ (.tail _ (List.mem_append_left _ hp))) hG2 I2 (Nat.lt_succ_self _) hQ
end
end
end
end Mine
end
open PySem PySem.W PyProof.Rows PySem.Flt
set_option maxRecDepth 100000 in
set_option maxHeartbeats 8000000 in
theorem PySem.Challenge.cw_sc0061_01_holds : PySem.Challenge.rw_sc0061_01.Holds :=
  Mine.hd (by
  k_fill
  intro w s₀ s₁ mg mb G Y fa o pm cd doc dV kV ho hd hcd hD hmg hg args vals as hpre hlay hrd hwl hlo
  have hX := kIn_of Y
  -- the head's own facts of the view are left out: nothing of them is asked below, and they would make a second table of the program
  have hV := (Ground.X G).2
  refine Ground.open G ?_
  intro T B D TE TW
  obtain ⟨_, _, M⟩ := bmod_of_top T
  have hA := at_of_top T
  obtain ⟨_, _, he, B0⟩ := based_of_top T rfl hmg ho hd
  have he' : cd = _ := he
  subst he'
  clear he hmg
  wrow_args hpre hlay hrd hwl hlo
  refine enter_call ?_
  w_top on
  refine codeAny_mono ?_ (fun _ _ g => GoodW.toG g)
  have hK := below_caller (Top.heap T)
  w_call any ho hd hcd hD T F
  clear hd hA
  k_drop
  all_goals (try k_fold)
  rename Below callerA _ _ _ => KB
  rename Fr _ _ _ _ => KF
  rename News _ _ _ _ => KN
  rename Top _ _ _ _ _ _ => KT
  rename IntsAre _ _ => KI
  rename Heap.IsList _ _ _ => KL
  rename ¬ _ < _ => KZ
  rename PySem.W.Frag.In _ _ => KX
  refine Mine.law_walk KB KF KX KN KT ?hd ?hE ?vs KL KI ?hz ?hM ?hE0 ?hun ?hQ
  case hd => decide
  case hE => passes_own
  case vs => rfl
  case hz => have h9 := KI.length; lia
  case hM => assumption
  case hE0 => assumption
  case hun => decide
  case hQ =>
    intro h' tk m' F'
    k_steps)
