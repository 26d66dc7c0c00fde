import PyProof.Rows.All
import Wide.All
import OpenK.AllK
import Wide.FinOn
import PySem.Challenge.RW_xg0060_01
set_option Elab.async false
set_option linter.unusedVariables false
set_option rowWalk.seconds 0
set_option compiler.extract_closed false
section
open PySem PySem.W PyProof.Rows
namespace Mine
set_option maxRecDepth 100000 in
set_option maxHeartbeats 8000000 in
open_top hd for PySem.Challenge.rw_xg0060_01
end Mine
end
section
open PySem PySem.W PyProof.Rows PySem.Calls
local macro_rules | `(tactic| walk_at $s:str) => `(tactic| k_extra $s)
local macro_rules | `(tactic| k_mem) => `(tactic| k_extra "k_mem")
local macro_rules | `(tactic| k_enter) => `(tactic| k_extra "k_enter")
local macro_rules | `(tactic| k_all) => `(tactic| k_extra "k_all")
local macro_rules | `(tactic| k_ne) => `(tactic| k_extra "k_ne")
local macro_rules | `(tactic| lcg_off) => `(tactic| k_extra "lcg_off")
local macro_rules | `(tactic| lcg_sub) => `(tactic| k_extra "lcg_sub")
local macro_rules | `(tactic| lcg_src) => `(tactic| k_extra "lcg_src")
local macro_rules | `(tactic| k_subL) => `(tactic| k_extra "k_subL")
local macro_rules | `(tactic| k_qdec) => `(tactic| decide +kernel)
local macro_rules | `(tactic| k_units) => `(tactic| ktr_units)
local macro_rules | `(tactic| k_room) => `(tactic| ktr_room)
local macro_rules | `(tactic| k_lt $h) => `(tactic| (k_extra "k_lt"; replace $h := allLt_of $h))
section
open PySem PySem.W PyProof.Rows
set_option maxRecDepth 100000
set_option maxHeartbeats 16000000
namespace Mine
example (P : Params) : PySem.Challenge.rw_xg0060_01 = PySem.Challenge.rw_xg0060_01 ∧ hd.heap_39 P = hd.heap_39 P := by
  w_top off
  k_fill
  exact ⟨rfl, rfl⟩

noncomputable abbrev fLt (a b : UInt64) : Bool := Float64.cmp a b == some Ordering.lt
noncomputable abbrev fEq (a b : UInt64) : Bool := Float64.cmp a b == some Ordering.eq
noncomputable def f1 : UInt64 := 4607182418800017408
noncomputable def f6 : UInt64 := 4618441417868443648
noncomputable def fHalf : UInt64 := 4602678819172646912
noncomputable def oneThird : UInt64 := 4599676419421066581
noncomputable def oneSixth : UInt64 := 4595172819793696085
noncomputable def twoThird : UInt64 := 4604180019048437077
noncomputable def vF (m1 m2 hue : UInt64) : UInt64 :=
  let u := (Float64.divmod hue 4607182418800017408).snd
  if fLt u 4595172819793696085 = true then Float64.add m1 (Float64.mul (Float64.mul (Float64.sub m2 m1) u) 4618441417868443648)
  else if fLt u 4602678819172646912 = true then m2
  else if fLt u 4604180019048437077 = true then Float64.add m1 (Float64.mul (Float64.mul (Float64.sub m2 m1) (Float64.sub 4604180019048437077 u)) 4618441417868443648)
  else m1

noncomputable def hM2 : UInt64 := Float64.mul 4602678819172646912 (Float64.add 4607182418800017408 4607182418800017408)
noncomputable def hM1 : UInt64 := Float64.sub (Float64.mul 4611686018427387904 4602678819172646912) (Float64.mul 4602678819172646912 (Float64.add 4607182418800017408 4607182418800017408))
noncomputable def hueR (h : UInt64) : UInt64 := vF hM1 hM2 (Float64.add h 4599676419421066581)
noncomputable def hueG (h : UInt64) : UInt64 := vF hM1 hM2 h
noncomputable def hueB (h : UInt64) : UInt64 := vF hM1 hM2 (Float64.sub h 4599676419421066581)
section
variable {w : World} {mean : ExcName → Option Value} {mg mb : Str → Option Value} {loose : List Str} {dp un : Nat} {gd : Option (List Code)} {cn : Str} {cs : Scope} {a : Addr} {ccd : Value} {cl : List (Str × Addr)} {outer : List Env} {A₀ : Around} {base h₀ : Heap} {L : Addr} {m : Str → Option Value} {s : Shared} {Q E : Value → Shared → Prop} {news : List (Addr × Obj)}

theorem retF {h' : Heap} {x y : UInt64} {t : Tok} {tk' : Nat} (hret : ∀ (t : Tok) (h' : Heap) (tk' : Nat), Fr h₀ L h' m → News h₀ L h' news → Q (.float x t) { s with heap := h', toks := tk' }) (F : Fr h₀ L h' m) (N : News h₀ L h' news) (e : y = x) : Q (.float y t) { s with heap := h', toks := tk' } := by
  subst e
  exact hret t h' tk' F N

theorem v_cl {m1 m2 hue : UInt64} {t1 t2 t3 : Tok} (B : Below A₀ base outer h₀) (F : Fr h₀ L s.heap m) (X : (hd.heap_39 w.params).In h₀) (N : News h₀ L s.heap news) (T : Top hd.view_39 loose mean mg mb h₀) (hk : cs.kind = .function)
    (hdp : dp + 1 < recursionLimit) (hun : un + 8 < cLine)
    (hret : ∀ (t : Tok) (h' : Heap) (tk' : Nat), Fr h₀ L h' m → News h₀ L h' news → Q (.float (vF m1 m2 hue) t) { s with heap := h', toks := tk' }) :
    wpAny (model PySem.Challenge.rw_xg0060_01.row.prog w) (ktrTop dp un gd cn cs L a ccd cl outer) (call (.ref 72) [.float m1 t1, .float m2 t2, .float hue t3]) Q E s := by
  refine wpAny_call ?_
  k_dflt cell_enter
  k_steps
  all_goals (refine' retF hret ?_ ?_ ?_; assumption; assumption; unfold vF; simp only [*, if_true, if_false, Bool.false_eq_true])
end
example : True := by
  k_with_none
  (k_with "call ref" => (k_here; (with_reducible show wpAny _ _ (call (Value.ref 72) _) _ _ _); k_dflt (refine' v_cl ?k1Zq ?k2Zq ?k3Zq ?k4Zq ?k5Zq ?k6Zq ?k7Zq ?k8Zq ?_; (case k1Zq => k_asm); (case k2Zq => k_asm); (case k3Zq => k_asm); (case k4Zq => k_asm); (case k5Zq => k_asm); (case k6Zq => first | exact rfl | assumption); (case k7Zq => ktr_room); (case k8Zq => ktr_units); k_whole); intro t' h' tk' F' N'; (try k_sweep)))
  trivial
section
variable {w : World} {mean : ExcName → Option Value} {mg mb : Str → Option Value} {loose : List Str} {dp un : Nat} {gd : Option (List Code)} {cn : Str} {cs : Scope} {a : Addr} {ccd : Value} {cl : List (Str × Addr)} {outer : List Env} {A₀ : Around} {base h₀ : Heap} {L : Addr} {m : Str → Option Value} {s : Shared} {Q E : Value → Shared → Prop} {news : List (Addr × Obj)}
theorem hls_cl {h : UInt64} {t1 t2 t3 : Tok} (B : Below A₀ base outer h₀) (F : Fr h₀ L s.heap m) (X : (hd.heap_39 w.params).In h₀) (N : News h₀ L s.heap news) (T : Top hd.view_39 loose mean mg mb h₀) (hk : cs.kind = .function)
    (hdp : dp + 3 < recursionLimit) (hun : un + 30 < cLine)
    (hret : ∀ (D : Addr) (t1 t2 t3 : Tok) (n : Nat) (h' : Heap) (tk' : Nat), Fr h₀ L h' m → News h₀ L h' ((D, ({ cls := .type "tuple", data := .seq #[.float (hueR h) t1, .float (hueG h) t2, .float (hueB h) t3] n } : Obj)) :: news) → (∀ p ∈ news, p.1 < D) → Q (.ref D) { s with heap := h', toks := tk' }) :
    wpAny (model PySem.Challenge.rw_xg0060_01.row.prog w) (ktrTop dp un gd cn cs L a ccd cl outer) (call (.ref 65) [.float h t1, .float 4602678819172646912 t2, .float 4607182418800017408 t3]) Q E s := by
  refine wpAny_call ?_
  k_dflt cell_enter
  k_steps
  all_goals first
    | exact hret _ _ _ _ _ _ _ (by assumption) (by assumption) (by assumption)
    | exact absurd ‹(Float64.cmp 4607182418800017408 0 == some Ordering.eq) = true› (by decide +kernel)
    | exact absurd ‹(Float64.cmp 4602678819172646912 4602678819172646912 == some Ordering.lt || Float64.cmp 4602678819172646912 4602678819172646912 == some Ordering.eq) = false› (by decide +kernel)
end
end Mine
end
section
open PySem PySem.W PyProof.Rows
set_option maxRecDepth 100000
set_option maxHeartbeats 16000000
namespace Mine
noncomputable def max3F (x y z : UInt64) : UInt64 :=
  if fLt x y = true then (if fLt y z = true then z else y) else (if fLt x z = true then z else x)
noncomputable def min3F (x y z : UInt64) : UInt64 :=
  if fLt y x = true then (if fLt z y = true then z else y) else (if fLt z x = true then z else x)
section
variable {prog : Program} {w : World} {A : Around} {E : Value → Shared → Prop} {s : Shared} {Q : Value → Shared → Prop} {h₀ : Heap} {L : Addr} {m : Str → Option Value} {news : List (Addr × Obj)} {x y z : UInt64} {t u v : Tok}
theorem three_new {hp : Heap} {o₁ o₂ : Obj} {h' : Heap} (hk : ∀ b o, b ∉ [(hp.push o₁).objs.size] → ((hp.push o₁).push o₂).get? b = some o → h'.get? b = some o) : ∀ b o, hp.get? b = some o → h'.get? b = some o := by
  intro b o e
  refine hk b o (fun hm => ?_) (Heap.get?_push_of_some _ (Heap.get?_push_of_some _ e))
  have h1 := Heap.lt_size e
  have h2 : (hp.push o₁).objs.size = hp.objs.size + 1 := Heap.size_push ..
  rw [List.mem_singleton.mp hm, h2] at h1
  exact Nat.lt_irrefl _ (Nat.lt_of_succ_lt h1)
theorem three_low {hp : Heap} {o₁ o₂ : Obj} : ∀ b ∈ [(hp.push o₁).objs.size, hp.objs.size], b < ((hp.push o₁).push o₂).objs.size := by
  intro b hb
  have h2 : (hp.push o₁).objs.size = hp.objs.size + 1 := Heap.size_push ..
  have h3 : ((hp.push o₁).push o₂).objs.size = hp.objs.size + 2 := by rw [Heap.size_push, h2]
  rw [h3]; rw [h2] at hb
  simp only [List.mem_cons, List.not_mem_nil, or_false] at hb
  rcases hb with e | e <;> rw [e]
  · exact Nat.lt_succ_self _
  · exact Nat.lt_succ_of_lt (Nat.lt_succ_self _)
theorem max3_f (hh : A.handled = none) (F : Fr h₀ L s.heap m) (N : News h₀ L s.heap news)
    (h : ∀ h' tk t, Fr h₀ L h' m → News h₀ L h' news → Q (.float (max3F x y z) t) { s with heap := h', toks := tk }) :
    wpAny (model prog w) A (call (.builtin "max") [.float x t, .float y u, .float z v]) Q E s := by
  have hT : (s.heap.push { cls := .type "tuple", data := .seq #[.float x t, .float y u, .float z v] }).IsTuple s.heap.objs.size #[.float x t, .float y u, .float z v] := ⟨_, Heap.get?_push_size _ rfl, rfl, 0, rfl⟩
  refine call_max_three (wpAny_pyIter_tuple hT ?_)
  refine ⟨_, [_, s.heap.objs.size], [_], _, _, _, _, rfl, Walks.tuple (A := A.in1) hh _ s.heap.objs.size (by rw [Heap.size_push]; exact Nat.ne_of_lt (Nat.lt_succ_self _)) #[.float x t, .float y u, .float z v],
    ⟨⟨_, Heap.get?_push_size _ rfl, rfl, rfl⟩, hT.push _⟩, three_low, by simp, Flt.cmpOf_gt #[.float x t, .float y u, .float z v] (fun q hq => ?_), fun r h' tk hP hk => ?_⟩
  · simp only [List.mem_toArray, List.mem_cons, List.not_mem_nil, or_false] at hq
    rcases hq with e | e | e <;> rw [e] <;> exact .float _ _
  · have kp := three_new hk
    have hr : ∃ t', r = .float (max3F x y z) t' := by
      unfold max3F fLt
      cases h1 : (Float64.cmp x y == some .lt) <;> cases h2 : (Float64.cmp y z == some .lt) <;> cases h3 : (Float64.cmp x z == some .lt) <;>
        simp [argBest, Flt.ltV, h1, h2, h3] at hP <;> exact ⟨_, by simpa using hP.symm⟩
    obtain ⟨t', rfl⟩ := hr
    exact h h' tk t' (F.grownK kp) (N.grown kp)
theorem min3_f (hh : A.handled = none) (F : Fr h₀ L s.heap m) (N : News h₀ L s.heap news)
    (h : ∀ h' tk t, Fr h₀ L h' m → News h₀ L h' news → Q (.float (min3F x y z) t) { s with heap := h', toks := tk }) :
    wpAny (model prog w) A (call (.builtin "min") [.float x t, .float y u, .float z v]) Q E s := by
  have hT : (s.heap.push { cls := .type "tuple", data := .seq #[.float x t, .float y u, .float z v] }).IsTuple s.heap.objs.size #[.float x t, .float y u, .float z v] := ⟨_, Heap.get?_push_size _ rfl, rfl, 0, rfl⟩
  refine call_min_three (wpAny_pyIter_tuple hT ?_)
  refine ⟨_, [_, s.heap.objs.size], [_], _, _, _, _, rfl, Walks.tuple (A := A.in1) hh _ s.heap.objs.size (by rw [Heap.size_push]; exact Nat.ne_of_lt (Nat.lt_succ_self _)) #[.float x t, .float y u, .float z v],
    ⟨⟨_, Heap.get?_push_size _ rfl, rfl, rfl⟩, hT.push _⟩, three_low, by simp, Flt.cmpOf_lt #[.float x t, .float y u, .float z v] (fun q hq => ?_), fun r h' tk hP hk => ?_⟩
  · simp only [List.mem_toArray, List.mem_cons, List.not_mem_nil, or_false] at hq
    rcases hq with e | e | e <;> rw [e] <;> exact .float _ _
  · have kp := three_new hk
    have hr : ∃ t', r = .float (min3F x y z) t' := by
      unfold min3F fLt
      cases h1 : (Float64.cmp y x == some .lt) <;> cases h2 : (Float64.cmp z y == some .lt) <;> cases h3 : (Float64.cmp z x == some .lt) <;>
        simp [argBest, Flt.ltV, h1, h2, h3] at hP <;> exact ⟨_, by simpa using hP.symm⟩
    obtain ⟨t', rfl⟩ := hr
    exact h h' tk t' (F.grownK kp) (N.grown kp)
end
end Mine
end
section
open PySem PySem.W PyProof.Rows
set_option maxRecDepth 100000
set_option maxHeartbeats 16000000
namespace Mine
example (P : Params) : PySem.Challenge.rw_xg0060_01 = PySem.Challenge.rw_xg0060_01 ∧ hd.heap_39 P = hd.heap_39 P := by
  w_top off
  k_fill
  exact ⟨rfl, rfl⟩
example : True := by
  k_with_none
  (k_with "call builtin:max" => (k_here; (with_reducible show wpAny _ _ (call (Value.builtin "max") [Value.float _ _, Value.float _ _, Value.float _ _]) _ _ _); k_dflt (refine' max3_f ?k1Zq ?k2Zq ?k3Zq ?_; (case k1Zq => exact rfl); (case k2Zq => k_asm); (case k3Zq => k_asm); k_whole); intro h' tk' t' F' N'; (try k_sweep)))
  (k_with "call builtin:min" => (k_here; (with_reducible show wpAny _ _ (call (Value.builtin "min") [Value.float _ _, Value.float _ _, Value.float _ _]) _ _ _); k_dflt (refine' min3_f ?k1Zq ?k2Zq ?k3Zq ?_; (case k1Zq => exact rfl); (case k2Zq => k_asm); (case k3Zq => k_asm); k_whole); intro h' tk' t' F' N'; (try k_sweep)))
  trivial
@[irreducible] noncomputable def hueOf (r g b : UInt64) : UInt64 :=
  let M := max3F r g b
  let d := Float64.sub M (min3F r g b)
  let h := if fEq r M = true then Float64.sub (Float64.div (Float64.sub M b) d) (Float64.div (Float64.sub M g) d)
    else if fEq g M = true then Float64.sub (Float64.add 4611686018427387904 (Float64.div (Float64.sub M r) d)) (Float64.div (Float64.sub M b) d)
    else Float64.sub (Float64.add 4616189618054758400 (Float64.div (Float64.sub M g) d)) (Float64.div (Float64.sub M r) d)
  (Float64.divmod (Float64.div h 4618441417868443648) 4607182418800017408).snd
section
variable {w : World} {mean : ExcName → Option Value} {mg mb : Str → Option Value} {loose : List Str} {dp un : Nat} {gd : Option (List Code)} {cn : Str} {cs : Scope} {a : Addr} {ccd : Value} {cl : List (Str × Addr)} {outer : List Env} {A₀ : Around} {base h₀ : Heap} {L : Addr} {m : Str → Option Value} {s : Shared} {Q E : Value → Shared → Prop} {news : List (Addr × Obj)}
theorem retHue {z z' : UInt64} {D : Addr} {t : Tok} {x y : Value} {n : Nat} {h' : Heap} {tk' : Nat}
    (hret : ∀ (D : Addr) (t : Tok) (x y : Value) (n : Nat) (h' : Heap) (tk' : Nat), Fr h₀ L h' m → News h₀ L h' ((D, ({ cls := .type "tuple", data := .seq #[.float z t, x, y] n } : Obj)) :: news) → (∀ p ∈ news, p.1 < D) → Q (.ref D) { s with heap := h', toks := tk' })
    (F : Fr h₀ L h' m) (N : News h₀ L h' ((D, ({ cls := .type "tuple", data := .seq #[.float z' t, x, y] n } : Obj)) :: news)) (l : ∀ p ∈ news, p.1 < D) (e : z' = z) : Q (.ref D) { s with heap := h', toks := tk' } := by
  subst e
  exact hret D t x y n h' tk' F N l
theorem rgb_cl {r g b : UInt64} {t1 t2 t3 : Tok} (B : Below A₀ base outer h₀) (F : Fr h₀ L s.heap m) (X : (hd.heap_39 w.params).In h₀) (N : News h₀ L s.heap news) (T : Top hd.view_39 loose mean mg mb h₀) (hk : cs.kind = .function)
    (hdp : dp + 3 < recursionLimit) (hun : un + 30 < cLine) (hne : (Float64.cmp (min3F r g b) (max3F r g b) == some Ordering.eq) = false)
    (hs0 : Float64.isZero (Float64.add (max3F r g b) (min3F r g b)) = false) (hr0 : Float64.isZero (Float64.sub (max3F r g b) (min3F r g b)) = false) (hd0 : Float64.isZero (Float64.sub (Float64.sub 4611686018427387904 (max3F r g b)) (min3F r g b)) = false)
    (hret : ∀ (D : Addr) (t : Tok) (x y : Value) (n : Nat) (h' : Heap) (tk' : Nat), Fr h₀ L h' m → News h₀ L h' ((D, ({ cls := .type "tuple", data := .seq #[.float (hueOf r g b) t, x, y] n } : Obj)) :: news) → (∀ p ∈ news, p.1 < D) → Q (.ref D) { s with heap := h', toks := tk' }) :
    wpAny (model PySem.Challenge.rw_xg0060_01.row.prog w) (ktrTop dp un gd cn cs L a ccd cl outer) (call (.ref 58) [.float r t1, .float g t2, .float b t3]) Q E s := by
  refine wpAny_call ?_
  k_dflt cell_enter
  k_steps
  all_goals first
    | exact absurd ‹(Float64.cmp (min3F r g b) (max3F r g b) == some Ordering.eq) = true› (by rw [hne]; decide)
    | exact absurd ‹Float64.isZero (Float64.add (max3F r g b) (min3F r g b)) = true› (by rw [hs0]; decide)
    | exact absurd ‹Float64.isZero (Float64.sub (max3F r g b) (min3F r g b)) = true› (by rw [hr0]; decide)
    | exact absurd ‹Float64.isZero (Float64.sub (Float64.sub 4611686018427387904 (max3F r g b)) (min3F r g b)) = true› (by rw [hd0]; decide)
    | (refine retHue hret (by assumption) (by assumption) (by assumption) ?_; simp only [hueOf, fEq, *, if_true, if_false, Bool.false_eq_true])
end
end Mine
end
section
open PySem PySem.W PyProof.Rows
set_option maxRecDepth 100000
set_option maxHeartbeats 16000000
namespace Mine
@[irreducible] noncomputable def hueIn (n : Int) : UInt64 := Float64.ofFrac (decide (n < 0) != decide ((86400 : Int) < 0)) n.natAbs (86400 : Int).natAbs
noncomputable def rgbR (n : Int) : UInt64 := hueR (hueIn n)
noncomputable def rgbG (n : Int) : UInt64 := hueG (hueIn n)
noncomputable def rgbB (n : Int) : UInt64 := hueB (hueIn n)
noncomputable def awayAt (clock top : Int) : Int := if Int.fmod (clock - top + 24) 48 - 24 < 0 then -(Int.fmod (clock - top + 24) 48 - 24) else Int.fmod (clock - top + 24) 48 - 24
@[irreducible] noncomputable def shineAt (clock top : Int) : Int := if (if 16 - awayAt clock top > 0 then 16 - awayAt clock top else 0) < 8 then (if 16 - awayAt clock top > 0 then 16 - awayAt clock top else 0) else 8
noncomputable def hueBack (n : Int) : UInt64 := Float64.mul (hueOf (rgbR n) (rgbG n) (rgbB n)) (Float64.ofInt 48)
noncomputable def eightR (n : Int) : UInt64 := Float64.mul (Float64.ofInt 8) (rgbR n)
noncomputable def eightG (n : Int) : UInt64 := Float64.mul (Float64.ofInt 8) (rgbG n)
noncomputable def eightB (n : Int) : UInt64 := Float64.mul (Float64.ofInt 8) (rgbB n)
noncomputable def finB (x : UInt64) : Bool := !Float64.isNaN x && !Float64.isInf x
noncomputable def hueOk (half : Int) : Bool :=
  let n := 3600 * 0 + 1800 * half
  let R := rgbR n
  let G := rgbG n
  let B := rgbB n
  !Float64.isInf (hueIn n) &&
  !(Float64.cmp (min3F R G B) (max3F R G B) == some Ordering.eq) && !Float64.isZero (Float64.add (max3F R G B) (min3F R G B)) &&
  !Float64.isZero (Float64.sub (max3F R G B) (min3F R G B)) && !Float64.isZero (Float64.sub (Float64.sub 4611686018427387904 (max3F R G B)) (min3F R G B)) &&
  finB (hueBack n) && finB (eightR n) && finB (eightG n) && finB (eightB n) &&
  Int.fmod (Flt.toInt Float64.nearestOf (hueBack n)) 48 == Int.fmod half 48 &&
  Flt.toInt Float64.nearestOf (eightR n) == shineAt (Int.fmod half 48) 0 &&
  Flt.toInt Float64.nearestOf (eightG n) == shineAt (Int.fmod half 48) 16 &&
  Flt.toInt Float64.nearestOf (eightB n) == shineAt (Int.fmod half 48) 32
/-- the same, the values being given: each is reckoned once -/
noncomputable def hueOkT (half : Int) (r g b h : UInt64) : Bool :=
  let n := 3600 * 0 + 1800 * half
  (rgbR n == r && rgbG n == g && rgbB n == b && hueOf r g b == h) &&
  (!Float64.isInf (hueIn n) &&
  !(Float64.cmp (min3F r g b) (max3F r g b) == some Ordering.eq) && !Float64.isZero (Float64.add (max3F r g b) (min3F r g b)) &&
  !Float64.isZero (Float64.sub (max3F r g b) (min3F r g b)) && !Float64.isZero (Float64.sub (Float64.sub 4611686018427387904 (max3F r g b)) (min3F r g b)) &&
  finB (Float64.mul h (Float64.ofInt 48)) && finB (Float64.mul (Float64.ofInt 8) r) && finB (Float64.mul (Float64.ofInt 8) g) && finB (Float64.mul (Float64.ofInt 8) b) &&
  Int.fmod (Flt.toInt Float64.nearestOf (Float64.mul h (Float64.ofInt 48))) 48 == Int.fmod half 48 &&
  Flt.toInt Float64.nearestOf (Float64.mul (Float64.ofInt 8) r) == shineAt (Int.fmod half 48) 0 &&
  Flt.toInt Float64.nearestOf (Float64.mul (Float64.ofInt 8) g) == shineAt (Int.fmod half 48) 16 &&
  Flt.toInt Float64.nearestOf (Float64.mul (Float64.ofInt 8) b) == shineAt (Int.fmod half 48) 32)
theorem hueOk_of {half : Int} {r g b h : UInt64} (H : hueOkT half r g b h = true) : hueOk half = true := by
  unfold hueOkT at H
  have H1 := (Bool.and_eq_true _ _).mp H
  obtain ⟨E, R⟩ := H1
  simp only [Bool.and_eq_true, beq_iff_eq] at E
  obtain ⟨⟨⟨e1, e2⟩, e3⟩, e4⟩ := E
  unfold hueOk
  simp only [hueBack, eightR, eightG, eightB, e1, e2, e3, e4]
  exact R
noncomputable def tabOk : Int → List (UInt64 × UInt64 × UInt64 × UInt64) → Bool
  | _, [] => true
  | x, p :: l => hueOkT x p.1 p.2.1 p.2.2.1 p.2.2.2 && tabOk (x + 1) l
theorem tab_at : ∀ {l : List (UInt64 × UInt64 × UInt64 × UInt64)} {x half : Int}, tabOk x l = true → x ≤ half → half < x + (l.length : Int) → hueOk half = true
  | [], x, half, _, h1, h2 => by simp at h2; omega
  | p :: l, x, half, h, h1, h2 => by
    unfold tabOk at h
    obtain ⟨a, b⟩ := (Bool.and_eq_true _ _).mp h
    by_cases e : x = half
    · subst e
      exact hueOk_of a
    · refine tab_at (l := l) b (by omega) ?_
      rw [List.length_cons] at h2
      omega
theorem hue_tab0 : tabOk (-24) [(0, 4607182418800017406, 4607182418800017408, 4602678819172646912), (0, 4606056518893174786, 4607182418800017408, 4602866469157120683), (0, 4604930618986332154, 4607182418800017408, 4603054119141594455), (0, 4603804719079489534, 4607182418800017408, 4603241769126068224), (0, 4602678819172646914, 4607182418800017408, 4603429419110541995), (0, 4600427019358961652, 4607182418800017408, 4603617069095015767), (0, 4598175219545276408, 4607182418800017408, 4603804719079489536), (0, 4593671619917905928, 4607182418800017408, 4603992369063963307), (0, 0, 4607182418800017408, 4604180019048437077), (4593671619917905912, 0, 4607182418800017408, 4604367669032910848)] = true := by decide +kernel
theorem hue_tab1 : tabOk (-14) [(4598175219545276408, 0, 4607182418800017408, 4604555319017384619), (4600427019358961664, 0, 4607182418800017408, 4604742969001858389), (4602678819172646910, 0, 4607182418800017408, 4604930618986332160), (4603804719079489536, 0, 4607182418800017408, 4605118268970805931), (4604930618986332158, 0, 4607182418800017408, 4605305918955279701), (4606056518893174783, 0, 4607182418800017408, 4605493568939753472), (4607182418800017408, 0, 4607182418800017406, 4605681218924227243), (4607182418800017408, 0, 4606056518893174780, 4605868868908701014), (4607182418800017408, 0, 4604930618986332154, 4606056518893174785), (4607182418800017408, 0, 4603804719079489534, 4606244168877648555)] = true := by decide +kernel
theorem hue_tab2 : tabOk (-4) [(4607182418800017408, 0, 4602678819172646904, 4606431818862122326), (4607182418800017408, 0, 4600427019358961652, 4606619468846596097), (4607182418800017408, 0, 4598175219545276408, 4606807118831069867), (4607182418800017408, 0, 4593671619917905888, 4606994768815543638), (4607182418800017408, 0, 0, 0), (4607182418800017408, 4593671619917905920, 0, 4581662020911584597), (4607182418800017408, 4598175219545276416, 0, 4586165620538955093), (4607182418800017408, 4600427019358961664, 0, 4589168020290535424), (4607182418800017408, 4602678819172646912, 0, 4590669220166325589), (4607182418800017408, 4603804719079489536, 0, 4592170420042115755)] = true := by decide +kernel
theorem hue_tab3 : tabOk (6) [(4607182418800017408, 4604930618986332160, 0, 4593671619917905920), (4607182418800017408, 4606056518893174784, 0, 4594422219855801003), (4607182418800017406, 4607182418800017408, 0, 4595172819793696085), (4606056518893174786, 4607182418800017408, 0, 4595923419731591168), (4604930618986332160, 4607182418800017408, 0, 4596674019669486251), (4603804719079489534, 4607182418800017408, 0, 4597424619607381333), (4602678819172646914, 4607182418800017408, 0, 4598175219545276416), (4600427019358961664, 4607182418800017408, 0, 4598550519514223957), (4598175219545276408, 4607182418800017408, 0, 4598925819483171499), (4593671619917905928, 4607182418800017408, 0, 4599301119452119040)] = true := by decide +kernel
theorem hue_tab4 : tabOk (16) [(0, 4607182418800017408, 0, 4599676419421066581), (0, 4607182418800017408, 4593671619917905928, 4600051719390014123), (0, 4607182418800017408, 4598175219545276418, 4600427019358961664), (0, 4607182418800017408, 4600427019358961664, 4600802319327909205), (0, 4607182418800017408, 4602678819172646914, 4601177619296856747), (0, 4607182418800017408, 4603804719079489537, 4601552919265804288), (0, 4607182418800017408, 4604930618986332160, 4601928219234751829), (0, 4607182418800017408, 4606056518893174786, 4602303519203699371), (0, 4607182418800017406, 4607182418800017408, 4602678819172646912), (0, 4606056518893174780, 4607182418800017408, 4602866469157120683)] = true := by decide +kernel
theorem hue_tab5 : tabOk (26) [(0, 4604930618986332160, 4607182418800017408, 4603054119141594453), (0, 4603804719079489534, 4607182418800017408, 4603241769126068224), (0, 4602678819172646904, 4607182418800017408, 4603429419110541995), (0, 4600427019358961664, 4607182418800017408, 4603617069095015765), (0, 4598175219545276408, 4607182418800017408, 4603804719079489536), (0, 4593671619917905888, 4607182418800017408, 4603992369063963307), (0, 0, 4607182418800017408, 4604180019048437077), (4593671619917905888, 0, 4607182418800017408, 4604367669032910848), (4598175219545276424, 0, 4607182418800017408, 4604555319017384619), (4600427019358961664, 0, 4607182418800017408, 4604742969001858389)] = true := by decide +kernel
theorem hue_tab6 : tabOk (36) [(4602678819172646904, 0, 4607182418800017408, 4604930618986332160), (4603804719079489540, 0, 4607182418800017408, 4605118268970805931), (4604930618986332160, 0, 4607182418800017408, 4605305918955279701), (4606056518893174780, 0, 4607182418800017408, 4605493568939753472), (4607182418800017408, 0, 4607182418800017406, 4605681218924227243), (4607182418800017408, 0, 4606056518893174786, 4605868868908701013), (4607182418800017408, 0, 4604930618986332154, 4606056518893174785), (4607182418800017408, 0, 4603804719079489534, 4606244168877648555), (4607182418800017408, 0, 4602678819172646914, 4606431818862122325), (4607182418800017408, 0, 4600427019358961652, 4606619468846596097)] = true := by decide +kernel
theorem hue_tab7 : tabOk (46) [(4607182418800017408, 0, 4598175219545276408, 4606807118831069867), (4607182418800017408, 0, 4593671619917905928, 4606994768815543637), (4607182418800017408, 0, 0, 0), (4607182418800017408, 4593671619917905888, 0, 4581662020911584576), (4607182418800017408, 4598175219545276424, 0, 4586165620538955104), (4607182418800017408, 4600427019358961664, 0, 4589168020290535424), (4607182418800017408, 4602678819172646904, 0, 4590669220166325584), (4607182418800017408, 4603804719079489540, 0, 4592170420042115760), (4607182418800017408, 4604930618986332160, 0, 4593671619917905920), (4607182418800017408, 4606056518893174780, 0, 4594422219855801000)] = true := by decide +kernel
theorem hue_tab8 : tabOk (56) [(4607182418800017406, 4607182418800017408, 0, 4595172819793696085), (4606056518893174786, 4607182418800017408, 0, 4595923419731591168), (4604930618986332166, 4607182418800017408, 0, 4596674019669486245), (4603804719079489534, 4607182418800017408, 0, 4597424619607381333), (4602678819172646914, 4607182418800017408, 0, 4598175219545276416), (4600427019358961676, 4607182418800017408, 0, 4598550519514223955), (4598175219545276408, 4607182418800017408, 0, 4598925819483171499), (4593671619917905928, 4607182418800017408, 0, 4599301119452119040), (4379750637617807360, 4607182418800017408, 0, 4599676419421066579), (0, 4607182418800017408, 4593671619917905952, 4600051719390014125)] = true := by decide +kernel
theorem hue_tab9 : tabOk (66) [(0, 4607182418800017408, 4598175219545276424, 4600427019358961665), (0, 4607182418800017408, 4600427019358961664, 4600802319327909205), (0, 4607182418800017408, 4602678819172646920, 4601177619296856749), (0, 4607182418800017408, 4603804719079489540, 4601552919265804289), (0, 4607182418800017408, 4604930618986332160, 4601928219234751829), (0, 4607182418800017408, 4606056518893174792, 4602303519203699373), (0, 4607182418800017406, 4607182418800017408, 4602678819172646912), (0, 4606056518893174786, 4607182418800017408, 4602866469157120683), (0, 4604930618986332154, 4607182418800017408, 4603054119141594455), (0, 4603804719079489534, 4607182418800017408, 4603241769126068224)] = true := by decide +kernel
theorem hue_tab10 : tabOk (76) [(0, 4602678819172646914, 4607182418800017408, 4603429419110541995), (0, 4600427019358961652, 4607182418800017408, 4603617069095015767), (0, 4598175219545276408, 4607182418800017408, 4603804719079489536), (0, 4593671619917905928, 4607182418800017408, 4603992369063963307), (0, 0, 4607182418800017408, 4604180019048437077), (4593671619917905952, 0, 4607182418800017408, 4604367669032910849), (4598175219545276384, 0, 4607182418800017408, 4604555319017384617), (4600427019358961664, 0, 4607182418800017408, 4604742969001858389), (4602678819172646920, 0, 4607182418800017408, 4604930618986332161), (4603804719079489528, 0, 4607182418800017408, 4605118268970805929)] = true := by decide +kernel
theorem hue_tab11 : tabOk (86) [(4604930618986332160, 0, 4607182418800017408, 4605305918955279701), (4606056518893174792, 0, 4607182418800017408, 4605493568939753473), (4607182418800017400, 0, 4607182418800017406, 4605681218924227241), (4607182418800017408, 0, 4606056518893174774, 4605868868908701015), (4607182418800017408, 0, 4604930618986332154, 4606056518893174785), (4607182418800017408, 0, 4603804719079489534, 4606244168877648555), (4607182418800017408, 0, 4602678819172646892, 4606431818862122327), (4607182418800017408, 0, 4600427019358961652, 4606619468846596097), (4607182418800017408, 0, 4598175219545276408, 4606807118831069867), (4607182418800017408, 0, 4593671619917905840, 4606994768815543639)] = true := by decide +kernel
theorem hue_tab12 : tabOk (96) [(4607182418800017408, 0, 0, 0), (4607182418800017408, 4593671619917905952, 0, 4581662020911584640), (4607182418800017408, 4598175219545276384, 0, 4586165620538955072), (4607182418800017408, 4600427019358961664, 0, 4589168020290535424), (4607182418800017408, 4602678819172646920, 0, 4590669220166325600), (4607182418800017408, 4603804719079489528, 0, 4592170420042115744), (4607182418800017408, 4604930618986332160, 0, 4593671619917905920), (4607182418800017408, 4606056518893174792, 0, 4594422219855801008), (4607182418800017406, 4607182418800017400, 0, 4595172819793696081), (4606056518893174774, 4607182418800017408, 0, 4595923419731591173)] = true := by decide +kernel
theorem hue_tab13 : tabOk (106) [(4604930618986332142, 4607182418800017408, 0, 4596674019669486261), (4603804719079489534, 4607182418800017408, 0, 4597424619607381333), (4602678819172646892, 4607182418800017408, 0, 4598175219545276419), (4600427019358961628, 4607182418800017408, 0, 4598550519514223963), (4598175219545276408, 4607182418800017408, 0, 4598925819483171499), (4593671619917905840, 4607182418800017408, 0, 4599301119452119043), (0, 4607182418800017408, 0, 4599676419421066581), (0, 4607182418800017408, 4593671619917905792, 4600051719390014117), (0, 4607182418800017408, 4598175219545276384, 4600427019358961661), (0, 4607182418800017408, 4600427019358961664, 4600802319327909205)] = true := by decide +kernel
theorem hueOk_at {half : Int} (h1 : -24 ≤ half) (h2 : half < 116) : hueOk half = true := by
  by_cases q0 : half < -14
  · exact tab_at hue_tab0 (by omega) (by simp only [List.length_cons, List.length_nil]; omega)
  by_cases q1 : half < -4
  · exact tab_at hue_tab1 (by omega) (by simp only [List.length_cons, List.length_nil]; omega)
  by_cases q2 : half < 6
  · exact tab_at hue_tab2 (by omega) (by simp only [List.length_cons, List.length_nil]; omega)
  by_cases q3 : half < 16
  · exact tab_at hue_tab3 (by omega) (by simp only [List.length_cons, List.length_nil]; omega)
  by_cases q4 : half < 26
  · exact tab_at hue_tab4 (by omega) (by simp only [List.length_cons, List.length_nil]; omega)
  by_cases q5 : half < 36
  · exact tab_at hue_tab5 (by omega) (by simp only [List.length_cons, List.length_nil]; omega)
  by_cases q6 : half < 46
  · exact tab_at hue_tab6 (by omega) (by simp only [List.length_cons, List.length_nil]; omega)
  by_cases q7 : half < 56
  · exact tab_at hue_tab7 (by omega) (by simp only [List.length_cons, List.length_nil]; omega)
  by_cases q8 : half < 66
  · exact tab_at hue_tab8 (by omega) (by simp only [List.length_cons, List.length_nil]; omega)
  by_cases q9 : half < 76
  · exact tab_at hue_tab9 (by omega) (by simp only [List.length_cons, List.length_nil]; omega)
  by_cases q10 : half < 86
  · exact tab_at hue_tab10 (by omega) (by simp only [List.length_cons, List.length_nil]; omega)
  by_cases q11 : half < 96
  · exact tab_at hue_tab11 (by omega) (by simp only [List.length_cons, List.length_nil]; omega)
  by_cases q12 : half < 106
  · exact tab_at hue_tab12 (by omega) (by simp only [List.length_cons, List.length_nil]; omega)
  exact tab_at hue_tab13 (by omega) (by simp only [List.length_cons, List.length_nil]; omega)
end Mine
end
section
open PySem PySem.W PyProof.Rows PySem.Calls
set_option maxRecDepth 100000
set_option maxHeartbeats 16000000
namespace Mine
theorem re_slot_search : Slot "re.Pattern" "search" "re.Pattern.search" :=
  .of (owner := "re.Pattern") (n := "search") (by rw [typeLookup_type, builtinLookup_eq_fast]; kernel_rfl) (by decide +kernel) (by decide +kernel) (by decide +kernel)
    (by first | exact .inl (by decide +kernel) | exact .inr (by decide +kernel)) (by rw [isSubtype_type]; kernel_rfl)
theorem re_entry_search : entryFor table "re.Pattern.search" = some Builtin.«re.Pattern.search» := entryFor_of_tree (by kernel_rfl)
theorem re_args_search (a b : Value) : argsOk "re.Pattern.search" ⟨[a, b], []⟩ := by unfold argsOk; kernel_rfl
theorem re_type_search : typeOf (.builtin "re.Pattern.search") = pure (.type "method_descriptor") := by show builtinType _ = _; rw [builtinType_eq_fast]; kernel_rfl
theorem re_plain : PlainAttrs "re.Pattern" := ⟨by first
  | exact ⟨"object.__getattribute__", by rw [typeLookup_type, builtinLookup_eq_fast]; kernel_rfl, by decide +kernel⟩
  | exact ⟨"re.Pattern.__getattribute__", by rw [typeLookup_type, builtinLookup_eq_fast]; kernel_rfl, by decide +kernel⟩, by rw [typeLookup_type, builtinLookup_eq_fast]; kernel_rfl⟩
theorem re_slot_group : Slot "re.Match" "group" "re.Match.group" :=
  .of (owner := "re.Match") (n := "group") (by rw [typeLookup_type, builtinLookup_eq_fast]; kernel_rfl) (by decide +kernel) (by decide +kernel) (by decide +kernel)
    (by first | exact .inl (by decide +kernel) | exact .inr (by decide +kernel)) (by rw [isSubtype_type]; kernel_rfl)
theorem re_entry_group : entryFor table "re.Match.group" = some Builtin.«re.Match.group» := entryFor_of_tree (by kernel_rfl)
theorem re_args_group (a b : Value) : argsOk "re.Match.group" ⟨[a, b], []⟩ := by unfold argsOk; kernel_rfl
theorem re_type_group : typeOf (.builtin "re.Match.group") = pure (.type "method_descriptor") := by show builtinType _ = _; rw [builtinType_eq_fast]; kernel_rfl
theorem re_plainM : PlainAttrs "re.Match" := ⟨by first
  | exact ⟨"object.__getattribute__", by rw [typeLookup_type, builtinLookup_eq_fast]; kernel_rfl, by decide +kernel⟩
  | exact ⟨"re.Match.__getattribute__", by rw [typeLookup_type, builtinLookup_eq_fast]; kernel_rfl, by decide +kernel⟩, by rw [typeLookup_type, builtinLookup_eq_fast]; kernel_rfl⟩

theorem runFor_stop : ∀ (n : Nat) (m : Sre.M), m.outcome.isSome = true → m.runFor n = m
  | 0, _, _ => rfl
  | n + 1, m, h => by rw [Sre.M.runFor, if_pos h]
theorem runFor_add : ∀ (a b : Nat) (m : Sre.M), m.runFor (a + b) = (m.runFor a).runFor b
  | 0, b, m => by rw [Nat.zero_add]; rfl
  | a + 1, b, m => by
    rw [Nat.add_right_comm, Sre.M.runFor, Sre.M.runFor]
    by_cases h : m.outcome.isSome = true
    · rw [if_pos h, if_pos h, runFor_stop b m h]
    · rw [if_neg h, if_neg h]; exact runFor_add a b m.step
section
variable {M : Model} {A : Around} {E : Value → Shared → Prop} {s : Shared}
theorem drive_ok {Q : Sre.M → Shared → Prop} : ∀ (k turns : Nat) (m : Sre.M), k < turns → (m.runFor (4 * (k + 1))).outcome.isSome = true → Q (m.runFor (4 * (k + 1))) s → wpAny M A (Builtin.Re.reDrive turns m) Q E s
  | k, 0, _, h, _, _ => absurd h (Nat.not_lt_zero _)
  | k, turns + 1, m, h, ho, hq => by
    rw [Builtin.Re.reDrive]
    show wpAny M A (if (m.runFor 4).outcome.isSome = true then pure (m.runFor 4) else rule "sre.turn" >>= fun _ => Builtin.Re.reDrive turns (m.runFor 4)) Q E s
    have e : m.runFor (4 * (k + 1)) = (m.runFor 4).runFor (4 * k) := by rw [← runFor_add]; congr 1; omega
    by_cases h1 : (m.runFor 4).outcome.isSome = true
    · rw [if_pos h1]
      rw [e, runFor_stop _ _ h1] at hq
      exact wpAny_pure hq
    · rw [if_neg h1]
      refine wpAny_bind (wpAny_rule ?_)
      cases k with
      | zero => exact absurd ho h1
      | succ k =>
        rw [e] at ho hq
        exact drive_ok k turns (m.runFor 4) (by omega) ho hq
theorem forIn_rules {body : Nat → PUnit → Sem (ForInStep PUnit)} {Q : PUnit → Shared → Prop} : ∀ (l : List Nat) , (∀ i, ∀ Q' : ForInStep PUnit → Shared → Prop, Q' (.yield ⟨⟩) s → wpAny M A (body i ⟨⟩) Q' E s) → Q ⟨⟩ s → wpAny M A (forIn l PUnit.unit body) Q E s
  | [], _, hq => by rw [List.forIn_nil]; exact wpAny_pure hq
  | i :: l, hb, hq => by
    rw [List.forIn_cons]
    exact wpAny_bind (hb i _ (forIn_rules l hb hq))
end
/-- the machine when the search is over -/
noncomputable def reRun (code : Array Nat) (x : Str) : Sre.M := (Sre.forSearch code x.cps 3 (min (0 : Int).toNat x.cps.size) (min ((2 : Int) ^ 63 - 1).toNat x.cps.size) false).runFor 400
noncomputable def reSpans (m : Sre.M) : List Value := (List.range 3).flatMap fun g =>
    match if ((2 * g + 1 : Nat) : Int) ≤ m.lastmark then (m.marks.getD (2 * g) none, m.marks.getD (2 * g + 1) none) else (none, none) with
    | (some b, some e) => [rawInt b, rawInt e]
    | _ => [rawInt (-1), rawInt (-1)]
theorem reSpans_len (m : Sre.M) : (reSpans m).length = 6 := by
  unfold reSpans
  simp only [show List.range 3 = [0, 1, 2] from rfl, List.flatMap_cons, List.flatMap_nil, List.append_nil, List.length_append]
  (repeat' split) <;> rfl
noncomputable def reWrong (m : Sre.M) : Bool := (List.range 3).any (fun g => match m.marks.getD (2 * g) none, m.marks.getD (2 * g + 1) none with | some b, some e => ((2 * g + 1 : Nat) : Int) ≤ m.lastmark && e < b | _, _ => false)
noncomputable def reMatched (m : Sre.M) : Bool := match m.outcome with | some .matched => true | _ => false
section
variable {M : Model} {A : Around} {E : Value → Shared → Prop} {s : Shared}
theorem run_end {m : Sre.M} {Q : Option Sre.M → Shared → Prop} (ho : reMatched (m.runFor 400) = true) (hq : Q (some (m.runFor 400)) s) : wpAny M A (Builtin.Re.reRunToEnd m) Q E s := by
  unfold Builtin.Re.reRunToEnd
  have h1 : (m.runFor 400).outcome.isSome = true := by
    unfold reMatched at ho
    split at ho
    · rename_i e; rw [e]; rfl
    · cases ho
  refine wpAny_bind (drive_ok 99 (2 ^ 64) m (by decide) h1 ?_)
  refine wpAny_bind (forIn_rules _ (fun i Q' hq' => ?_) ?_)
  · split
    · exact wpAny_bind (wpAny_rule (wpAny_pure hq'))
    · exact wpAny_pure hq'
  · unfold reMatched at ho
    split at ho
    · rename_i e
      show wpAny M A (match (m.runFor 400).outcome with | some Sre.Outcome.matched => _ | some Sre.Outcome.failed => _ | some (Sre.Outcome.stuck why) => _ | none => _) Q E s
      rw [e]
      exact wpAny_pure hq
    · cases ho
end

section
variable {prog : Program} {w : World} {A : Around} {E : Value → Shared → Prop} {s : Shared} {h₀ : Heap} {L : Addr} {m : Str → Option Value} {news : List (Addr × Obj)}
theorem search_ok {p c : Addr} {op oc : Obj} {x : Str} {t : Tok} {v0 v1 v3 v4 : Value} {cv : Array Value} {n : Nat} {Q : Value → Shared → Prop}
    (F : Fr h₀ L s.heap m) (N : News h₀ L s.heap news) (hp : s.heap.get? p = some op) (hpc : op.cls = .type "re.Pattern") (hpd : op.data = .fields #[v0, v1, .int 3 0, v3, v4, .ref c, .int 0 0])
    (hc : s.heap.get? c = some oc) (hcd : oc.data = .seq cv n)
    (ho : reMatched (reRun ((cv.map Builtin.Re.reRawOf).map (·.toNat)) x) = true) (hw : reWrong (reRun ((cv.map Builtin.Re.reRawOf).map (·.toNat)) x) = false)
    (h : ∀ (D1 D2 : Addr) (h' : Heap) (v2 v3 v4 : Value), Fr h₀ L h' m → News h₀ L h' ((D2, ({ cls := .type "re.Match", data := .fields #[.str x t, .ref p, v2, v3, v4, .ref D1] } : Obj)) :: (D1, ({ cls := .type "tuple", data := .seq (rawInt (reRun ((cv.map Builtin.Re.reRawOf).map (·.toNat)) x).start :: rawInt (reRun ((cv.map Builtin.Re.reRawOf).map (·.toNat)) x).handed :: reSpans (reRun ((cv.map Builtin.Re.reRawOf).map (·.toNat)) x)).toArray } : Obj)) :: news) →
      (∀ q ∈ news, q.1 < D1) → D1 < D2 → Q (.ref D2) { s with heap := h' }) :
    wpAny (model prog w) A (call (.builtin "re.Pattern.search") [.ref p, .str x t]) Q E s := by
  refine wpAny_call_entry re_slot_search ⟨op, hp, hpc⟩ re_entry_search ?_ (re_args_search _ _)
  unfold Builtin.«re.Pattern.search»
  show wpAny _ A.in1 (Builtin.Re.reTarget "re.Pattern.search" "search" ⟨[.ref p, .str x t], []⟩ >>= fun t => Builtin.Re.reAnswer t (Sre.forSearch t.code t.text t.groups t.pos t.lim false)) _ _ _
  refine wpAny_bind ?_
  unfold Builtin.Re.reTarget
  have hn : Builtin.Re.reNamed "re.Pattern.search" "search" ["string", "pos", "endpos"] 1 [.str x t] [] = pure [some (.str x t), none, none] := by rfl
  obtain ⟨hp', g, d, tk, os⟩ := s
  simp only [hn]
  repeat (any_goals (first | assumption | wp_step))
  rw [hpd]
  refine wpAny_pure ?_
  have ht : Builtin.Re.reTextOf (.str x t) = pure (x.cps, 0) := by rfl
  have e6 : Builtin.Re.reRawNat ((#[v0, v1, Value.int 3 0, v3, v4, Value.ref c, Value.int 0 0] : Array Value).getD 6 Value.none) = 0 := by rfl
  have e5 : (#[v0, v1, Value.int 3 0, v3, v4, Value.ref c, Value.int 0 0] : Array Value).getD 5 Value.none = .ref c := by rfl
  have e2 : Builtin.Re.reRawNat ((#[v0, v1, Value.int 3 0, v3, v4, Value.ref c, Value.int 0 0] : Array Value).getD 2 Value.none) = 3 := by rfl
  simp only [ht, e6, e5, e2]
  refine wpAny_bind (wpAny_pure ?_)
  refine wpAny_ite_false (by rfl) ?_
  refine wpAny_ite_false (by rfl) ?_
  refine wpAny_bind (wpAny_pure ?_)
  unfold Builtin.Re.reRawItems seqItems?
  refine wpAny_bind (wpAny_bind (wpAny_bind (wpAny_load hc ?_)))
  rw [hcd]
  refine wpAny_pure (wpAny_pure (wpAny_pure ?_))
  unfold Builtin.Re.reAnswer
  refine wpAny_bind (run_end ho ?_)
  dsimp only
  refine wpAny_bind ?_
  unfold Builtin.Re.reNewMatch
  refine wpAny_ite_false ?_ ?_
  · show decide (reWrong (reRun ((cv.map Builtin.Re.reRawOf).map (·.toNat)) x) = true) = false
    rw [hw]; rfl
  refine wpAny_bind (newTuple_N F N (fun h1 F1 N1 => ?_) ?_)
  · refine wpAny_newObj_type ?_ ?_
    · refine wpAny_pure ⟨_, rfl, ?_⟩
      exact h _ _ _ _ _ _ (F1.push _) (N1.push F1 _) (fun q hq => Heap.lt_size (N q hq).1) (Heap.lt_size (N1 _ (.head _)).1)
    · first | exact trivial | exact Nat.le_of_ble_eq_true rfl | (unfold sizeOk; decide)
  · show (rawInt _ :: rawInt _ :: reSpans _).length ≤ sizeLine
    rw [List.length_cons, List.length_cons, reSpans_len]
    decide
end
end Mine
end
section
open PySem PySem.W PyProof.Rows PySem.Calls
set_option maxRecDepth 100000
set_option maxHeartbeats 16000000
namespace Mine
theorem re_no_bool : typeLookup (.type "re.Match") "__bool__" = pure none := by rw [typeLookup_type, builtinLookup_eq_fast]; kernel_rfl
theorem re_no_len : typeLookup (.type "re.Match") "__len__" = pure none := by rw [typeLookup_type, builtinLookup_eq_fast]; kernel_rfl
noncomputable def reSp (m : Sre.M) : List Int := (rawInt m.start :: rawInt m.handed :: reSpans m).map Builtin.Re.reRawOf
noncomputable def reGroup (m : Sre.M) (x : Str) (g : Nat) : Option Str :=
  if (reSp m).getD (2 * g) (-1) < 0 ∨ (reSp m).getD (2 * g + 1) (-1) < 0 then none
  else some ⟨x.cps.extract ((reSp m).getD (2 * g) (-1)).toNat ((reSp m).getD (2 * g + 1) (-1)).toNat⟩
theorem reSp_len (m : Sre.M) : (reSp m).length = 8 := by
  unfold reSp
  rw [List.length_map, List.length_cons, List.length_cons, reSpans_len]
section
variable {prog : Program} {w : World} {A : Around} {E : Value → Shared → Prop} {s : Shared} {h₀ : Heap} {L : Addr} {m : Str → Option Value} {news : List (Addr × Obj)}
theorem truthy_match {D : Addr} {o : Obj} {Q : Bool → Shared → Prop} (hD : s.heap.get? D = some o) (hc : o.cls = .type "re.Match") (h : Q true s) : wpAny (model prog w) A (truthy (.ref D)) Q E s := by
  have hT : s.TypeIs (.ref D) "re.Match" := ⟨o, hD, hc⟩
  unfold truthy
  refine wpAny_bind (m := callSpecial? (.ref D) (Str.ofString "__bool__")) (wpAny_callSpecial?_none hT re_no_bool ?_)
  refine wpAny_bind (m := specialOf (.ref D) (Str.ofString "__len__")) (wpAny_specialOf hT re_no_len ?_)
  exact wpAny_pure h
theorem method_search {p : Addr} {o : Obj} {pl : Sem Bool} {Q : Value × List Value → Shared → Prop} (hp : s.heap.get? p = some o) (hc : o.cls = .type "re.Pattern") (hd : o.dict = none)
    (h : Q (.builtin "re.Pattern.search", [.ref p]) s) : wpAny (model prog w) A (getMethod (.ref p) "search" pl) Q E s :=
  getMethod_builtin ⟨o, hp, hc⟩ re_plain re_slot_search re_type_search (fun a e => by cases e; exact ⟨o, hp, hd⟩) h
theorem method_group {p : Addr} {o : Obj} {pl : Sem Bool} {Q : Value × List Value → Shared → Prop} (hp : s.heap.get? p = some o) (hc : o.cls = .type "re.Match") (hd : o.dict = none)
    (h : Q (.builtin "re.Match.group", [.ref p]) s) : wpAny (model prog w) A (getMethod (.ref p) "group" pl) Q E s :=
  getMethod_builtin ⟨o, hp, hc⟩ re_plainM re_slot_group re_type_group (fun a e => by cases e; exact ⟨o, hp, hd⟩) h
theorem group_any {D D1 : Addr} {o o1 : Obj} {M : Sre.M} {x : Str} {t u : Tok} {v1 v2 v3 v4 : Value} {n : Nat} {k : Int} {Q : Value → Shared → Prop}
    (hD : s.heap.get? D = some o) (hc : o.cls = .type "re.Match") (hd : o.data = .fields #[.str x t, v1, v2, v3, v4, .ref D1])
    (hD1 : s.heap.get? D1 = some o1) (hd1 : o1.data = .seq (rawInt M.start :: rawInt M.handed :: reSpans M).toArray n) (h0 : 0 ≤ k) (h1 : k < 4) (hx : x.length ≤ sizeLine)
    (hno : reGroup M x k.toNat = none → Q .none s) (hyes : ∀ y, reGroup M x k.toNat = some y → Q (.str y s.toks) { s with toks := s.toks + 1 }) :
    wpAny (model prog w) A (call (.builtin "re.Match.group") [.ref D, .int k u]) Q E s := by
  refine wpAny_call_entry re_slot_group ⟨o, hD, hc⟩ re_entry_group ?_ (re_args_group _ _)
  unfold Builtin.«re.Match.group»
  refine wpAny_bind (m := noKeywords _ _) (wpAny_pure ?_)
  refine wpAny_bind ?_
  unfold Builtin.Re.reFound fieldsOf
  refine wpAny_bind (wpAny_bind (wpAny_load hD ?_))
  rw [hd]
  refine wpAny_pure ?_
  have e5 : (#[Value.str x t, v1, v2, v3, v4, Value.ref D1] : Array Value).getD 5 Value.none = .ref D1 := by rfl
  have e0 : (#[Value.str x t, v1, v2, v3, v4, Value.ref D1] : Array Value).getD 0 Value.none = .str x t := by rfl
  simp only [e5]
  unfold Builtin.Re.reRawItems seqItems?
  refine wpAny_bind (wpAny_bind (wpAny_bind (wpAny_load hD1 ?_)))
  rw [hd1]
  refine wpAny_pure (wpAny_pure (wpAny_pure ?_))
  have esp : Array.map Builtin.Re.reRawOf ((some (rawInt M.start :: rawInt M.handed :: reSpans M).toArray).getD #[]) = (reSp M).toArray := by
    unfold reSp
    simp
  simp only [esp]
  refine wpAny_bind ?_
  refine wpAny_bind ?_
  refine wpAny_pure ?_
  refine wpAny_ite_true (by rfl) ?_
  refine wpAny_bind (m := asIndex (.int k u)) ?_
  unfold asIndex
  refine wpAny_bind (wpAny_pure ?_)
  refine wpAny_pure ?_
  have hsz : ((reSp M).toArray.size : Int) = 8 := by rw [List.size_toArray, reSp_len]; rfl
  refine wpAny_ite_false ?_ (wpAny_pure ?_)
  · rw [hsz]
    simp only [Bool.or_eq_true, decide_eq_true_eq, decide_eq_false_iff_not]
    omega
  unfold Builtin.Re.reGroupText
  simp only [e0]
  have eg (i : Nat) : (reSp M).toArray.getD i (-1) = (reSp M).getD i (-1) := by simp
  simp only [eg]
  by_cases hb : (reSp M).getD (2 * k.toNat) (-1) < 0 ∨ (reSp M).getD (2 * k.toNat + 1) (-1) < 0
  · refine wpAny_bind (wpAny_ite_true ?_ ?_)
    · exact decide_eq_true (by simp only [Bool.or_eq_true, decide_eq_true_eq]; exact hb)
    exact wpAny_pure (wpAny_pure ⟨_, rfl, hno (by unfold reGroup; rw [if_pos hb])⟩)
  · refine wpAny_bind (wpAny_ite_false ?_ ?_)
    · exact decide_eq_false (by simp only [Bool.or_eq_true, decide_eq_true_eq]; exact hb)
    refine wpAny_bind (m := Builtin.Re.reTextOf (.str x t)) (wpAny_pure ?_)
    unfold Builtin.Re.reSlice
    refine wpAny_ite_true (by rfl) ?_
    refine wpAny_mkStr ?_ ?_
    · exact wpAny_pure ⟨_, rfl, hyes _ (by unfold reGroup; rw [if_neg hb])⟩
    · refine Nat.le_trans ?_ hx
      show (x.cps.extract _ _).size ≤ x.cps.size
      rw [Array.size_extract]; omega
end
end Mine
end
section
open PySem PySem.W PyProof.Rows PySem.Calls
set_option maxRecDepth 100000
set_option maxHeartbeats 16000000
namespace Mine
example (P : Params) : PySem.Challenge.rw_xg0060_01 = PySem.Challenge.rw_xg0060_01 ∧ hd.heap_39 P = hd.heap_39 P := by
  w_top off
  k_fill
  exact ⟨rfl, rfl⟩
noncomputable def zAbs (half : Int) : Int := if half < 0 then -half else half
noncomputable def zHours (half : Int) : Str := Str.ofString (toString ((if half < 0 then -half else half).fdiv 2))
noncomputable def zOdd (half : Int) : Bool := decide (Int.fmod (if half < 0 then -half else half) 2 = 1)
noncomputable def zoneText (half dress : Int) : Str :=
  if dress = 0 then
    (if half < 0 then Str.ofString "-" else Str.ofString "+") ++ Txt.slice (Str.ofString "0" ++ zHours half) (some (-2)) none ++ (if zOdd half = true then Str.ofString "30" else Str.ofString "00")
  else if dress = 1 then
    (if half < 0 then Str.ofString "-" else Str.ofString "+") ++ zHours half ++ (if zOdd half = true then Str.ofString ":30" else Str.ofString ":00")
  else if half = 0 then Str.ofString "GMT"
  else (if half < 0 then Str.ofString "-" else Str.ofString "") ++ zHours half ++ (if zOdd half = true then Str.ofString "30" else Str.ofString "")
theorem zHours_len {half : Int} (h1 : -24 ≤ half) (h2 : half < 24) : (Str.ofString (toString ((if half < 0 then -half else half).fdiv 2))).length ≤ 3 := by
  rw [PySem.ofString_length]
  refine int_text_length_le10 (k := 2) (by decide) ?_
  rw [Int.fdiv_eq_ediv_of_nonneg _ (by decide)]
  split <;> omega
theorem lit_m : (Str.ofString "-").length = 1 := by decide +kernel
theorem lit_p : (Str.ofString "+").length = 1 := by decide +kernel
theorem lit_e : (Str.ofString "").length = 0 := by decide +kernel
theorem lit_0 : (Str.ofString "0").length = 1 := by decide +kernel
theorem lit_30 : (Str.ofString "30").length = 2 := by decide +kernel
theorem lit_00 : (Str.ofString "00").length = 2 := by decide +kernel
theorem lit_c30 : (Str.ofString ":30").length = 3 := by decide +kernel
theorem lit_c00 : (Str.ofString ":00").length = 3 := by decide +kernel
theorem zSlice_len4 {half : Int} (h1 : -24 ≤ half) (h2 : half < 24) : (Str.ofString "0" ++ Str.ofString (toString ((if half < 0 then -half else half).fdiv 2))).length ≤ 4 := by
  have h := zHours_len h1 h2
  rw [Str.length_append, lit_0]
  omega
theorem zSlice_len {half : Int} (h1 : -24 ≤ half) (h2 : half < 24) : (Str.ofString "0" ++ Str.ofString (toString ((if half < 0 then -half else half).fdiv 2))).length ≤ sizeLine :=
  Nat.le_trans (zSlice_len4 h1 h2) (by rw [sizeLine_eq]; decide)
section
variable {w : World} {mean : ExcName → Option Value} {mg mb : Str → Option Value} {loose : List Str} {dp un : Nat} {gd : Option (List Code)} {cn : Str} {cs : Scope} {a : Addr} {ccd : Value} {cl : List (Str × Addr)} {outer : List Env} {A₀ : Around} {base h₀ : Heap} {L : Addr} {m : Str → Option Value} {s : Shared} {Q E : Value → Shared → Prop} {news : List (Addr × Obj)}
theorem retS {h' : Heap} {x y : Str} {t : Tok} {tk' : Nat} (hret : ∀ (t : Tok) (h' : Heap) (tk' : Nat), Fr h₀ L h' m → News h₀ L h' news → Q (.str x t) { s with heap := h', toks := tk' }) (F : Fr h₀ L h' m) (N : News h₀ L h' news) (e : y = x) : Q (.str y t) { s with heap := h', toks := tk' } := by
  subst e
  exact hret t h' tk' F N
example : True := by
  k_with_none
  (k_with "subscriptTail" => (k_here; (with_reducible show wpAny _ _ (subscriptTail _ (Expr.Slice (some _) none none _) (Value.str _ _) (Value.ref _)) _ _ _); (with_reducible rename Fr _ _ _ _ => F'); (with_reducible rename News _ _ _ _ => N'); (refine slice_strN_sn_len (hsz := ?hszZq) (s := ⟨_, _, _, _, _⟩) F' N' ?_); (case hszZq => exact zSlice_len (by assumption) (by assumption)); intro h' t' k' F' N' zle; (replace zle := Nat.le_trans zle (zSlice_len4 (by assumption) (by assumption)))))
  (k_with "binaryOp Add str str" => (k_here; (with_reducible show wpAny _ _ (binaryOp Operator.Add (Value.str _ _) (Value.str _ _)) _ _ _); (refine SB.add ?_ ?hszZq); (case hszZq => ((rename (_ : Int) < 24 => hz2); (rename -24 ≤ (_ : Int) => hz1); (have hzl := zHours_len hz1 hz2); rw [sizeLine_eq]; (try simp only [Str.length_append, lit_m, lit_p, lit_e, lit_0, lit_30, lit_00, lit_c30, lit_c00]); omega)); intro t' k'))
  trivial
theorem zone_cl {half dress : Int} {t1 t2 : Tok} (B : Below A₀ base outer h₀) (F : Fr h₀ L s.heap m) (X : (hd.heap_39 w.params).In h₀) (N : News h₀ L s.heap news) (T : Top hd.view_39 loose mean mg mb h₀) (hk : cs.kind = .function)
    (hdp : dp + 3 < recursionLimit) (hun : un + 30 < cLine) (h1 : -24 ≤ half) (h2 : half < 24) (h3 : 0 ≤ dress) (h4 : dress < 3)
    (hret : ∀ (t : Tok) (h' : Heap) (tk' : Nat), Fr h₀ L h' m → News h₀ L h' news → Q (.str (zoneText half dress) t) { s with heap := h', toks := tk' }) :
    wpAny (model PySem.Challenge.rw_xg0060_01.row.prog w) (ktrTop dp un gd cn cs L a ccd cl outer) (call (.ref 145) [.int half t1, .int dress t2]) Q E s := by
  refine wpAny_call ?_
  k_dflt cell_enter
  k_steps
  all_goals (refine' retS hret ?_ ?_ ?_; assumption; assumption; unfold zoneText zHours zOdd)
  all_goals (first
    | rw [if_pos (show dress = 0 from by assumption)]
    | (rw [if_neg (show ¬ dress = 0 from by assumption)]; first
      | rw [if_pos (show dress = 1 from by assumption)]
      | (rw [if_neg (show ¬ dress = 1 from by assumption)]; first
        | rw [if_pos (show half = 0 from by assumption)]
        | rw [if_neg (show ¬ half = 0 from by assumption)])))
  all_goals first
    | done
    | ((first
        | rw [if_pos (t := Str.ofString "-") (show half < 0 from by assumption)]
        | rw [if_neg (t := Str.ofString "-") (show ¬ half < 0 from by assumption)]
        | rw [if_neg (t := Str.ofString "-") (show ¬ half < 0 from by omega)])
       first
        | rw [if_pos (decide_eq_true (show (if half < 0 then -half else half).fmod 2 = 1 from by assumption))]
        | rw [if_neg (c := decide ((if half < 0 then -half else half).fmod 2 = 1) = true) (by rw [decide_eq_true_eq]; assumption)])
end
end Mine
end
section
open PySem PySem.W PyProof.Rows PySem.Calls
set_option maxRecDepth 100000
set_option maxHeartbeats 16000000
namespace Mine
example (P : Params) : PySem.Challenge.rw_xg0060_01 = PySem.Challenge.rw_xg0060_01 ∧ hd.heap_39 P = hd.heap_39 P := by
  w_top off
  k_fill
  exact ⟨rfl, rfl⟩
noncomputable def reCode : Array Nat := #[14, 4, 0, 1, 6, 6, 0, 23, 14, 0, 1, 17, 0, 13, 6, 16, 45, 16, 43, 0, 17, 1, 18, 17, 2, 13, 4, 8, 0, 0, 24, 9, 0, 1, 13, 4, 8, 0, 0, 1, 17, 3, 24, 6, 0, 1, 16, 58, 1, 23, 17, 0, 1, 17, 4, 13, 4, 8, 0, 0, 13, 4, 8, 0, 0, 17, 5, 18, 6, 5, 1]
noncomputable def tzIn (tz : Str) : Bool := decide (tz = { cps := #[71, 77, 84] }) || (decide (tz = { cps := #[85, 84, 67] }) || (decide (tz = { cps := #[85, 84] }) || (decide (tz = { cps := #[90] }) || false)))
structure TzM (x : Str) (y2 : Str) (n2 : Int) (g1 g3 : Option Str) (n3 : Int) : Prop where
  notIn : (decide (x = { cps := #[71, 77, 84] }) || (decide (x = { cps := #[85, 84, 67] }) || (decide (x = { cps := #[85, 84] }) || (decide (x = { cps := #[90] }) || false)))) = false
  len : x.length ≤ sizeLine
  ok : reMatched (reRun reCode x) = true
  right : reWrong (reRun reCode x) = false
  e2 : reGroup (reRun reCode x) x 2 = some y2
  l2 : y2.length ≤ 640
  i2 : PySem.intText? y2 = some n2
  e1 : reGroup (reRun reCode x) x 1 = g1
  e3 : reGroup (reRun reCode x) x 3 = g3
  i3 : ∀ y3, g3 = some y3 → PySem.intText? y3 = some n3 ∧ y3.length ≤ 640 ∧ ((y3.length : Int) != 0) = true
noncomputable def tzTell (n2 : Int) (g1 g3 : Option Str) (n3 : Int) : Int :=
  let n := match g3 with | none => 3600 * n2 | some _ => 3600 * n2 + 60 * n3
  match g1 with | none => n | some y1 => if (y1 == Str.ofString "-") = true then -n else n
section
variable {prog : Program} {w : World} {A : Around} {E : Value → Shared → Prop} {s : Shared} {h₀ : Heap} {L : Addr} {m : Str → Option Value} {news : List (Addr × Obj)} {K : Frag}
theorem search_K {op oc : Obj} {x : Str} {t : Tok} {v0 v1 v3 v4 : Value} {cv : Array Value} {n : Nat} {Q : Value → Shared → Prop}
    (F : Fr h₀ L s.heap m) (N : News h₀ L s.heap news) (X : K.In h₀) (hp : K.lookup 44 = some op) (hc : K.lookup 43 = some oc) (hpc : op.cls = .type "re.Pattern") (hpd : op.data = .fields #[v0, v1, .int 3 0, v3, v4, .ref 43, .int 0 0])
    (hcd : oc.data = .seq cv n) (hcode : (cv.map Builtin.Re.reRawOf).map (·.toNat) = reCode)
    (ho : reMatched (reRun reCode x) = true) (hw : reWrong (reRun reCode x) = false)
    (h : ∀ (D1 D2 : Addr) (h' : Heap) (v2 v3 v4 : Value), Fr h₀ L h' m → News h₀ L h' ((D2, ({ cls := .type "re.Match", data := .fields #[.str x t, .ref 44, v2, v3, v4, .ref D1] } : Obj)) :: (D1, ({ cls := .type "tuple", data := .seq (rawInt (reRun reCode x).start :: rawInt (reRun reCode x).handed :: reSpans (reRun reCode x)).toArray } : Obj)) :: news) →
      (∀ q ∈ news, q.1 < D1) → D1 < D2 → Q (.ref D2) { s with heap := h' }) :
    wpAny (model prog w) A (call (.builtin "re.Pattern.search") [.ref 44, .str x t]) Q E s :=
  search_ok (cv := cv) F N (F.keep _ _ (X _ _ hp)) hpc hpd (F.keep _ _ (X _ _ hc)) hcd (hcode ▸ ho) (hcode ▸ hw) (by rw [hcode]; exact h)
theorem msearch_K {o : Obj} {pl : Sem Bool} {Q : Value × List Value → Shared → Prop} (F : Fr h₀ L s.heap m) (X : K.In h₀) (hp : K.lookup 44 = some o) (hc : o.cls = .type "re.Pattern") (hd : o.dict = none)
    (h : Q (.builtin "re.Pattern.search", [.ref 44]) s) : wpAny (model prog w) A (getMethod (.ref 44) "search" pl) Q E s := method_search (F.keep _ _ (X _ _ hp)) hc hd h
theorem mgroup_N {D : Addr} {o : Obj} {pl : Sem Bool} {Q : Value × List Value → Shared → Prop} (N : News h₀ L s.heap news) (hm : (D, o) ∈ news) (hc : o.cls = .type "re.Match") (hd : o.dict = none)
    (h : Q (.builtin "re.Match.group", [.ref D]) s) : wpAny (model prog w) A (getMethod (.ref D) "group" pl) Q E s := method_group (N.get hm) hc hd h
theorem tmatch_N {D : Addr} {o : Obj} {Q : Bool → Shared → Prop} (N : News h₀ L s.heap news) (hm : (D, o) ∈ news) (hc : o.cls = .type "re.Match") (h : Q true s) : wpAny (model prog w) A (truthy (.ref D)) Q E s := truthy_match (N.get hm) hc h
theorem group_some {D D1 : Addr} {o o1 : Obj} {M : Sre.M} {x y : Str} {t u : Tok} {v1 v2 v3 v4 : Value} {n : Nat} {k : Int} {Q : Value → Shared → Prop}
    (N : News h₀ L s.heap news) (hm : (D, o) ∈ news) (hc : o.cls = .type "re.Match") (hd : o.data = .fields #[.str x t, v1, v2, v3, v4, .ref D1])
    (hm1 : (D1, o1) ∈ news) (hd1 : o1.data = .seq (rawInt M.start :: rawInt M.handed :: reSpans M).toArray n) (h0 : 0 ≤ k) (h1 : k < 4) (hx : x.length ≤ sizeLine)
    (hy : reGroup M x k.toNat = some y) (h : Q (.str y s.toks) { s with toks := s.toks + 1 }) :
    wpAny (model prog w) A (call (.builtin "re.Match.group") [.ref D, .int k u]) Q E s :=
  group_any (N.get hm) hc hd (N.get hm1) hd1 h0 h1 hx (fun e => by rw [hy] at e; cases e) (fun z e => by rw [hy] at e; cases e; exact h)
theorem group_none {D D1 : Addr} {o o1 : Obj} {M : Sre.M} {x : Str} {t u : Tok} {v1 v2 v3 v4 : Value} {n : Nat} {k : Int} {Q : Value → Shared → Prop}
    (N : News h₀ L s.heap news) (hm : (D, o) ∈ news) (hc : o.cls = .type "re.Match") (hd : o.data = .fields #[.str x t, v1, v2, v3, v4, .ref D1])
    (hm1 : (D1, o1) ∈ news) (hd1 : o1.data = .seq (rawInt M.start :: rawInt M.handed :: reSpans M).toArray n) (h0 : 0 ≤ k) (h1 : k < 4) (hx : x.length ≤ sizeLine)
    (hy : reGroup M x k.toNat = none) (h : Q .none s) :
    wpAny (model prog w) A (call (.builtin "re.Match.group") [.ref D, .int k u]) Q E s :=
  group_any (N.get hm) hc hd (N.get hm1) hd1 h0 h1 hx (fun _ => h) (fun z e => by rw [hy] at e; cases e)
end
example : True := by
  k_with_none
  (k_with "getMethod ref" => (k_here; k_dflt (refine' msearch_K ?k1Zq ?k2Zq ?k3Zq ?k4Zq ?k5Zq ?_; (case k1Zq => k_asm); (case k2Zq => k_asm); (case k3Zq => k_is); (case k4Zq => rfl); (case k5Zq => rfl); k_whole)))
  (k_with "getMethod ref" => (k_here; k_dflt (refine' mgroup_N ?k1Zq ?k2Zq ?k4Zq ?k5Zq ?_; (case k1Zq => k_asm); (case k2Zq => k_mem); (case k4Zq => rfl); (case k5Zq => rfl); k_whole)))
  (k_with "truthy ref" => (k_here; k_dflt (refine' tmatch_N ?k1Zq ?k2Zq ?k4Zq ?_; (case k1Zq => k_asm); (case k2Zq => k_mem); (case k4Zq => rfl); k_whole)))
  (k_with "call builtin:re.Pattern.search" => (k_here; k_dflt (refine' search_K ?k1Zq ?k2Zq ?k3Zq ?k4Zq ?k5Zq ?k6Zq ?k7Zq ?k8Zq ?k9Zq ?k10Zq ?k11Zq ?_; (case k1Zq => k_asm); (case k2Zq => k_asm); (case k3Zq => k_asm); (case k4Zq => k_is); (case k5Zq => k_is); (case k6Zq => rfl); (case k7Zq => rfl); (case k8Zq => rfl); (case k9Zq => decide +kernel); (case k10Zq => assumption); (case k11Zq => assumption); k_whole); intro D1' D2' h' v2' v3' v4' F' N' l1 l2; (try k_sweep)))
  (k_with "call builtin:re.Match.group" => (k_here; k_dflt (first | refine' group_some ?k1Zq ?k2Zq ?k3Zq ?k4Zq ?k5Zq ?k6Zq ?k7Zq ?k8Zq ?k9Zq ?k10Zq ?_; (case k1Zq => k_asm); (case k2Zq => k_mem); (case k3Zq => rfl); (case k4Zq => rfl); (case k5Zq => k_mem); (case k6Zq => rfl); (case k7Zq => decide); (case k8Zq => decide); (case k9Zq => assumption); (case k10Zq => assumption); k_whole | refine' group_none ?k1Zq ?k2Zq ?k3Zq ?k4Zq ?k5Zq ?k6Zq ?k7Zq ?k8Zq ?k9Zq ?k10Zq ?_; (case k1Zq => k_asm); (case k2Zq => k_mem); (case k3Zq => rfl); (case k4Zq => rfl); (case k5Zq => k_mem); (case k6Zq => rfl); (case k7Zq => decide); (case k8Zq => decide); (case k9Zq => assumption); (case k10Zq => assumption); k_whole)))
  trivial
section
variable {w : World} {mean : ExcName → Option Value} {mg mb : Str → Option Value} {loose : List Str} {dp un : Nat} {gd : Option (List Code)} {cn : Str} {cs : Scope} {a : Addr} {ccd : Value} {cl : List (Str × Addr)} {outer : List Env} {A₀ : Around} {base h₀ : Heap} {L : Addr} {m : Str → Option Value} {s : Shared} {Q E : Value → Shared → Prop} {news : List (Addr × Obj)}
theorem retI {h' : Heap} {x y : Int} {t : Tok} {tk' : Nat} (hret : ∀ (t : Tok) (h' : Heap) (tk' : Nat), Fr h₀ L h' m → News h₀ L h' news → Q (.int x t) { s with heap := h', toks := tk' }) (F : Fr h₀ L h' m) (N : News h₀ L h' news) (e : y = x) : Q (.int y t) { s with heap := h', toks := tk' } := by
  subst e
  exact hret t h' tk' F N
theorem off_m {x y2 : Str} {n2 n3 : Int} {g1 g3 : Option Str} {t1 : Tok} (B : Below A₀ base outer h₀) (F : Fr h₀ L s.heap m) (X : (hd.heap_39 w.params).In h₀) (N : News h₀ L s.heap news) (T : Top hd.view_39 loose mean mg mb h₀) (hk : cs.kind = .function)
    (hdp : dp + 3 < recursionLimit) (hM : TzM x y2 n2 g1 g3 n3)
    (hret : ∀ (t : Tok) (h' : Heap) (tk' : Nat), Fr h₀ L h' m → News h₀ L h' news → Q (.int (tzTell n2 g1 g3 n3) t) { s with heap := h', toks := tk' }) :
    wpAny (model PySem.Challenge.rw_xg0060_01.row.prog w) (ktrTop dp un gd cn cs L a ccd cl outer) (call (.ref 51) [.str x t1]) Q E s := by
  obtain ⟨z1, z2, z3, z4, z5, z6, z7, z8, z9, z10⟩ := hM
  refine wpAny_call ?_
  cases g3 with
  | none =>
    clear z10
    cases g1 with
    | none =>
      k_dflt cell_enter
      k_steps
      all_goals (refine' retI hret ?_ (cb_drop (by assumption) (by kcj_all)) ?_; assumption; simp only [tzTell, *, if_true, if_false, Bool.false_eq_true])
    | some y1 =>
      k_dflt cell_enter
      k_steps
      all_goals (refine' retI hret ?_ (cb_drop (by assumption) (by kcj_all)) ?_; assumption; simp only [tzTell, *, if_true, if_false, Bool.false_eq_true])
  | some y3 =>
    obtain ⟨z11, z12, z13⟩ := z10 y3 rfl
    clear z10
    cases g1 with
    | none =>
      k_dflt cell_enter
      k_steps
      all_goals (refine' retI hret ?_ (cb_drop (by assumption) (by kcj_all)) ?_; assumption; simp only [tzTell, *, if_true, if_false, Bool.false_eq_true])
    | some y1 =>
      k_dflt cell_enter
      k_steps
      all_goals (refine' retI hret ?_ (cb_drop (by assumption) (by kcj_all)) ?_; assumption; simp only [tzTell, *, if_true, if_false, Bool.false_eq_true])
theorem off_gmt {t1 : Tok} {x : Str} (B : Below A₀ base outer h₀) (F : Fr h₀ L s.heap m) (X : (hd.heap_39 w.params).In h₀) (N : News h₀ L s.heap news) (T : Top hd.view_39 loose mean mg mb h₀) (hk : cs.kind = .function)
    (hdp : dp + 3 < recursionLimit) (hx : (decide (x = { cps := #[71, 77, 84] }) || (decide (x = { cps := #[85, 84, 67] }) || (decide (x = { cps := #[85, 84] }) || (decide (x = { cps := #[90] }) || false)))) = true)
    (hret : ∀ (t : Tok) (h' : Heap) (tk' : Nat), Fr h₀ L h' m → News h₀ L h' news → Q (.int 0 t) { s with heap := h', toks := tk' }) :
    wpAny (model PySem.Challenge.rw_xg0060_01.row.prog w) (ktrTop dp un gd cn cs L a ccd cl outer) (call (.ref 51) [.str x t1]) Q E s := by
  refine wpAny_call ?_
  k_dflt cell_enter
  k_steps
  all_goals exact hret _ _ _ (by assumption) (by assumption)
end
noncomputable def zGood (half dress : Int) : Bool :=
  let x := zoneText half dress
  if (decide (x = { cps := #[71, 77, 84] }) || (decide (x = { cps := #[85, 84, 67] }) || (decide (x = { cps := #[85, 84] }) || (decide (x = { cps := #[90] }) || false)))) = true then half == 0
  else
    let M := reRun reCode x
    decide (x.length ≤ 100) && reMatched M && !reWrong M &&
    match reGroup M x 2 with
    | none => false
    | some y2 => match PySem.intText? y2 with
      | none => false
      | some n2 => decide (y2.length ≤ 640) && (match reGroup M x 3 with
        | none => tzTell n2 (reGroup M x 1) none 0 == 1800 * half
        | some y3 => match PySem.intText? y3 with
          | none => false
          | some n3 => decide (y3.length ≤ 640) && ((y3.length : Int) != 0) && tzTell n2 (reGroup M x 1) (some y3) n3 == 1800 * half)
end Mine
end
section
open PySem PySem.W PyProof.Rows PySem.Calls
set_option maxRecDepth 100000
set_option maxHeartbeats 16000000
namespace Mine
noncomputable def reSum (m : Sre.M) : List Int := if reMatched m && !reWrong m then reSp m else []
noncomputable def zTab0 : List (Int × List Nat × List Int) := [
  (-24, [45, 49, 50, 48, 48], [0, 5, 0, 1, 1, 3, 3, 5]),
  (-23, [45, 49, 49, 51, 48], [0, 5, 0, 1, 1, 3, 3, 5]),
  (-22, [45, 49, 49, 48, 48], [0, 5, 0, 1, 1, 3, 3, 5]),
  (-21, [45, 49, 48, 51, 48], [0, 5, 0, 1, 1, 3, 3, 5]),
  (-20, [45, 49, 48, 48, 48], [0, 5, 0, 1, 1, 3, 3, 5]),
  (-19, [45, 48, 57, 51, 48], [0, 5, 0, 1, 1, 3, 3, 5]),
  (-18, [45, 48, 57, 48, 48], [0, 5, 0, 1, 1, 3, 3, 5]),
  (-17, [45, 48, 56, 51, 48], [0, 5, 0, 1, 1, 3, 3, 5]),
  (-16, [45, 48, 56, 48, 48], [0, 5, 0, 1, 1, 3, 3, 5]),
  (-15, [45, 48, 55, 51, 48], [0, 5, 0, 1, 1, 3, 3, 5]),
  (-14, [45, 48, 55, 48, 48], [0, 5, 0, 1, 1, 3, 3, 5]),
  (-13, [45, 48, 54, 51, 48], [0, 5, 0, 1, 1, 3, 3, 5]),
  (-12, [45, 48, 54, 48, 48], [0, 5, 0, 1, 1, 3, 3, 5]),
  (-11, [45, 48, 53, 51, 48], [0, 5, 0, 1, 1, 3, 3, 5]),
  (-10, [45, 48, 53, 48, 48], [0, 5, 0, 1, 1, 3, 3, 5]),
  (-9, [45, 48, 52, 51, 48], [0, 5, 0, 1, 1, 3, 3, 5]),
  (-8, [45, 48, 52, 48, 48], [0, 5, 0, 1, 1, 3, 3, 5]),
  (-7, [45, 48, 51, 51, 48], [0, 5, 0, 1, 1, 3, 3, 5]),
  (-6, [45, 48, 51, 48, 48], [0, 5, 0, 1, 1, 3, 3, 5]),
  (-5, [45, 48, 50, 51, 48], [0, 5, 0, 1, 1, 3, 3, 5]),
  (-4, [45, 48, 50, 48, 48], [0, 5, 0, 1, 1, 3, 3, 5]),
  (-3, [45, 48, 49, 51, 48], [0, 5, 0, 1, 1, 3, 3, 5]),
  (-2, [45, 48, 49, 48, 48], [0, 5, 0, 1, 1, 3, 3, 5]),
  (-1, [45, 48, 48, 51, 48], [0, 5, 0, 1, 1, 3, 3, 5]),
  (0, [43, 48, 48, 48, 48], [0, 5, 0, 1, 1, 3, 3, 5]),
  (1, [43, 48, 48, 51, 48], [0, 5, 0, 1, 1, 3, 3, 5]),
  (2, [43, 48, 49, 48, 48], [0, 5, 0, 1, 1, 3, 3, 5]),
  (3, [43, 48, 49, 51, 48], [0, 5, 0, 1, 1, 3, 3, 5]),
  (4, [43, 48, 50, 48, 48], [0, 5, 0, 1, 1, 3, 3, 5]),
  (5, [43, 48, 50, 51, 48], [0, 5, 0, 1, 1, 3, 3, 5]),
  (6, [43, 48, 51, 48, 48], [0, 5, 0, 1, 1, 3, 3, 5]),
  (7, [43, 48, 51, 51, 48], [0, 5, 0, 1, 1, 3, 3, 5]),
  (8, [43, 48, 52, 48, 48], [0, 5, 0, 1, 1, 3, 3, 5]),
  (9, [43, 48, 52, 51, 48], [0, 5, 0, 1, 1, 3, 3, 5]),
  (10, [43, 48, 53, 48, 48], [0, 5, 0, 1, 1, 3, 3, 5]),
  (11, [43, 48, 53, 51, 48], [0, 5, 0, 1, 1, 3, 3, 5]),
  (12, [43, 48, 54, 48, 48], [0, 5, 0, 1, 1, 3, 3, 5]),
  (13, [43, 48, 54, 51, 48], [0, 5, 0, 1, 1, 3, 3, 5]),
  (14, [43, 48, 55, 48, 48], [0, 5, 0, 1, 1, 3, 3, 5]),
  (15, [43, 48, 55, 51, 48], [0, 5, 0, 1, 1, 3, 3, 5]),
  (16, [43, 48, 56, 48, 48], [0, 5, 0, 1, 1, 3, 3, 5]),
  (17, [43, 48, 56, 51, 48], [0, 5, 0, 1, 1, 3, 3, 5]),
  (18, [43, 48, 57, 48, 48], [0, 5, 0, 1, 1, 3, 3, 5]),
  (19, [43, 48, 57, 51, 48], [0, 5, 0, 1, 1, 3, 3, 5]),
  (20, [43, 49, 48, 48, 48], [0, 5, 0, 1, 1, 3, 3, 5]),
  (21, [43, 49, 48, 51, 48], [0, 5, 0, 1, 1, 3, 3, 5]),
  (22, [43, 49, 49, 48, 48], [0, 5, 0, 1, 1, 3, 3, 5]),
  (23, [43, 49, 49, 51, 48], [0, 5, 0, 1, 1, 3, 3, 5])]
noncomputable def zTab1 : List (Int × List Nat × List Int) := [
  (-24, [45, 49, 50, 58, 48, 48], [0, 6, 0, 1, 1, 3, 4, 6]),
  (-23, [45, 49, 49, 58, 51, 48], [0, 6, 0, 1, 1, 3, 4, 6]),
  (-22, [45, 49, 49, 58, 48, 48], [0, 6, 0, 1, 1, 3, 4, 6]),
  (-21, [45, 49, 48, 58, 51, 48], [0, 6, 0, 1, 1, 3, 4, 6]),
  (-20, [45, 49, 48, 58, 48, 48], [0, 6, 0, 1, 1, 3, 4, 6]),
  (-19, [45, 57, 58, 51, 48], [0, 5, 0, 1, 1, 2, 3, 5]),
  (-18, [45, 57, 58, 48, 48], [0, 5, 0, 1, 1, 2, 3, 5]),
  (-17, [45, 56, 58, 51, 48], [0, 5, 0, 1, 1, 2, 3, 5]),
  (-16, [45, 56, 58, 48, 48], [0, 5, 0, 1, 1, 2, 3, 5]),
  (-15, [45, 55, 58, 51, 48], [0, 5, 0, 1, 1, 2, 3, 5]),
  (-14, [45, 55, 58, 48, 48], [0, 5, 0, 1, 1, 2, 3, 5]),
  (-13, [45, 54, 58, 51, 48], [0, 5, 0, 1, 1, 2, 3, 5]),
  (-12, [45, 54, 58, 48, 48], [0, 5, 0, 1, 1, 2, 3, 5]),
  (-11, [45, 53, 58, 51, 48], [0, 5, 0, 1, 1, 2, 3, 5]),
  (-10, [45, 53, 58, 48, 48], [0, 5, 0, 1, 1, 2, 3, 5]),
  (-9, [45, 52, 58, 51, 48], [0, 5, 0, 1, 1, 2, 3, 5]),
  (-8, [45, 52, 58, 48, 48], [0, 5, 0, 1, 1, 2, 3, 5]),
  (-7, [45, 51, 58, 51, 48], [0, 5, 0, 1, 1, 2, 3, 5]),
  (-6, [45, 51, 58, 48, 48], [0, 5, 0, 1, 1, 2, 3, 5]),
  (-5, [45, 50, 58, 51, 48], [0, 5, 0, 1, 1, 2, 3, 5]),
  (-4, [45, 50, 58, 48, 48], [0, 5, 0, 1, 1, 2, 3, 5]),
  (-3, [45, 49, 58, 51, 48], [0, 5, 0, 1, 1, 2, 3, 5]),
  (-2, [45, 49, 58, 48, 48], [0, 5, 0, 1, 1, 2, 3, 5]),
  (-1, [45, 48, 58, 51, 48], [0, 5, 0, 1, 1, 2, 3, 5]),
  (0, [43, 48, 58, 48, 48], [0, 5, 0, 1, 1, 2, 3, 5]),
  (1, [43, 48, 58, 51, 48], [0, 5, 0, 1, 1, 2, 3, 5]),
  (2, [43, 49, 58, 48, 48], [0, 5, 0, 1, 1, 2, 3, 5]),
  (3, [43, 49, 58, 51, 48], [0, 5, 0, 1, 1, 2, 3, 5]),
  (4, [43, 50, 58, 48, 48], [0, 5, 0, 1, 1, 2, 3, 5]),
  (5, [43, 50, 58, 51, 48], [0, 5, 0, 1, 1, 2, 3, 5]),
  (6, [43, 51, 58, 48, 48], [0, 5, 0, 1, 1, 2, 3, 5]),
  (7, [43, 51, 58, 51, 48], [0, 5, 0, 1, 1, 2, 3, 5]),
  (8, [43, 52, 58, 48, 48], [0, 5, 0, 1, 1, 2, 3, 5]),
  (9, [43, 52, 58, 51, 48], [0, 5, 0, 1, 1, 2, 3, 5]),
  (10, [43, 53, 58, 48, 48], [0, 5, 0, 1, 1, 2, 3, 5]),
  (11, [43, 53, 58, 51, 48], [0, 5, 0, 1, 1, 2, 3, 5]),
  (12, [43, 54, 58, 48, 48], [0, 5, 0, 1, 1, 2, 3, 5]),
  (13, [43, 54, 58, 51, 48], [0, 5, 0, 1, 1, 2, 3, 5]),
  (14, [43, 55, 58, 48, 48], [0, 5, 0, 1, 1, 2, 3, 5]),
  (15, [43, 55, 58, 51, 48], [0, 5, 0, 1, 1, 2, 3, 5]),
  (16, [43, 56, 58, 48, 48], [0, 5, 0, 1, 1, 2, 3, 5]),
  (17, [43, 56, 58, 51, 48], [0, 5, 0, 1, 1, 2, 3, 5]),
  (18, [43, 57, 58, 48, 48], [0, 5, 0, 1, 1, 2, 3, 5]),
  (19, [43, 57, 58, 51, 48], [0, 5, 0, 1, 1, 2, 3, 5]),
  (20, [43, 49, 48, 58, 48, 48], [0, 6, 0, 1, 1, 3, 4, 6]),
  (21, [43, 49, 48, 58, 51, 48], [0, 6, 0, 1, 1, 3, 4, 6]),
  (22, [43, 49, 49, 58, 48, 48], [0, 6, 0, 1, 1, 3, 4, 6]),
  (23, [43, 49, 49, 58, 51, 48], [0, 6, 0, 1, 1, 3, 4, 6])]
noncomputable def zTab2 : List (Int × List Nat × List Int) := [
  (-24, [45, 49, 50], [0, 3, 0, 1, 1, 3, -1, -1]),
  (-23, [45, 49, 49, 51, 48], [0, 5, 0, 1, 1, 3, 3, 5]),
  (-22, [45, 49, 49], [0, 3, 0, 1, 1, 3, -1, -1]),
  (-21, [45, 49, 48, 51, 48], [0, 5, 0, 1, 1, 3, 3, 5]),
  (-20, [45, 49, 48], [0, 3, 0, 1, 1, 3, -1, -1]),
  (-19, [45, 57, 51, 48], [0, 4, 0, 1, 1, 2, 2, 4]),
  (-18, [45, 57], [0, 2, 0, 1, 1, 2, -1, -1]),
  (-17, [45, 56, 51, 48], [0, 4, 0, 1, 1, 2, 2, 4]),
  (-16, [45, 56], [0, 2, 0, 1, 1, 2, -1, -1]),
  (-15, [45, 55, 51, 48], [0, 4, 0, 1, 1, 2, 2, 4]),
  (-14, [45, 55], [0, 2, 0, 1, 1, 2, -1, -1]),
  (-13, [45, 54, 51, 48], [0, 4, 0, 1, 1, 2, 2, 4]),
  (-12, [45, 54], [0, 2, 0, 1, 1, 2, -1, -1]),
  (-11, [45, 53, 51, 48], [0, 4, 0, 1, 1, 2, 2, 4]),
  (-10, [45, 53], [0, 2, 0, 1, 1, 2, -1, -1]),
  (-9, [45, 52, 51, 48], [0, 4, 0, 1, 1, 2, 2, 4]),
  (-8, [45, 52], [0, 2, 0, 1, 1, 2, -1, -1]),
  (-7, [45, 51, 51, 48], [0, 4, 0, 1, 1, 2, 2, 4]),
  (-6, [45, 51], [0, 2, 0, 1, 1, 2, -1, -1]),
  (-5, [45, 50, 51, 48], [0, 4, 0, 1, 1, 2, 2, 4]),
  (-4, [45, 50], [0, 2, 0, 1, 1, 2, -1, -1]),
  (-3, [45, 49, 51, 48], [0, 4, 0, 1, 1, 2, 2, 4]),
  (-2, [45, 49], [0, 2, 0, 1, 1, 2, -1, -1]),
  (-1, [45, 48, 51, 48], [0, 4, 0, 1, 1, 2, 2, 4]),
  (1, [48, 51, 48], [0, 3, -1, -1, 0, 1, 1, 3]),
  (2, [49], [0, 1, -1, -1, 0, 1, -1, -1]),
  (3, [49, 51, 48], [0, 3, -1, -1, 0, 1, 1, 3]),
  (4, [50], [0, 1, -1, -1, 0, 1, -1, -1]),
  (5, [50, 51, 48], [0, 3, -1, -1, 0, 1, 1, 3]),
  (6, [51], [0, 1, -1, -1, 0, 1, -1, -1]),
  (7, [51, 51, 48], [0, 3, -1, -1, 0, 1, 1, 3]),
  (8, [52], [0, 1, -1, -1, 0, 1, -1, -1]),
  (9, [52, 51, 48], [0, 3, -1, -1, 0, 1, 1, 3]),
  (10, [53], [0, 1, -1, -1, 0, 1, -1, -1]),
  (11, [53, 51, 48], [0, 3, -1, -1, 0, 1, 1, 3]),
  (12, [54], [0, 1, -1, -1, 0, 1, -1, -1]),
  (13, [54, 51, 48], [0, 3, -1, -1, 0, 1, 1, 3]),
  (14, [55], [0, 1, -1, -1, 0, 1, -1, -1]),
  (15, [55, 51, 48], [0, 3, -1, -1, 0, 1, 1, 3]),
  (16, [56], [0, 1, -1, -1, 0, 1, -1, -1]),
  (17, [56, 51, 48], [0, 3, -1, -1, 0, 1, 1, 3]),
  (18, [57], [0, 1, -1, -1, 0, 1, -1, -1]),
  (19, [57, 51, 48], [0, 3, -1, -1, 0, 1, 1, 3]),
  (20, [49, 48], [0, 2, -1, -1, 0, 2, -1, -1]),
  (21, [49, 48, 51, 48], [0, 4, -1, -1, 0, 2, 2, 4]),
  (22, [49, 49], [0, 2, -1, -1, 0, 2, -1, -1]),
  (23, [49, 49, 51, 48], [0, 4, -1, -1, 0, 2, 2, 4])]

noncomputable def zGrp (sp : List Int) (cs : List Nat) (g : Nat) : Option Str :=
  if sp.getD (2 * g) (-1) < 0 ∨ sp.getD (2 * g + 1) (-1) < 0 then none else some ⟨cs.toArray.extract (sp.getD (2 * g) (-1)).toNat (sp.getD (2 * g + 1) (-1)).toNat⟩
noncomputable def zSums (half : Int) (cs : List Nat) (sp : List Int) : Bool :=
  decide (sp.length = 8) && decide (cs.length ≤ 100) &&
  !(decide (({ cps := cs.toArray } : Str) = { cps := #[71, 77, 84] }) || (decide (({ cps := cs.toArray } : Str) = { cps := #[85, 84, 67] }) || (decide (({ cps := cs.toArray } : Str) = { cps := #[85, 84] }) || (decide (({ cps := cs.toArray } : Str) = { cps := #[90] }) || false)))) &&
  match zGrp sp cs 2 with
  | none => false
  | some y2 => match PySem.intText? y2 with
    | none => false
    | some n2 => decide (y2.length ≤ 640) && (match zGrp sp cs 3 with
      | none => tzTell n2 (zGrp sp cs 1) none 0 == 1800 * half
      | some y3 => match PySem.intText? y3 with
        | none => false
        | some n3 => decide (y3.length ≤ 640) && ((y3.length : Int) != 0) && tzTell n2 (zGrp sp cs 1) (some y3) n3 == 1800 * half)
theorem all_cut {α : Type} {l : List α} {f : α → Bool} (k : Nat) (h1 : (l.take k).all f = true) (h2 : (l.drop k).all f = true) : l.all f = true := by
  rw [← List.take_append_drop k l, List.all_append, h1, h2]
  rfl
theorem zt0a : zTab0.all (fun r => (zoneText r.1 0).cps.toList == r.2.1) = true := by decide +kernel
theorem zt0b0 : ((zTab0).take 6).all (fun r => reSum (reRun reCode ⟨r.2.1.toArray⟩) == r.2.2) = true := by decide +kernel
theorem zt0b1 : (((zTab0).drop 6).take 6).all (fun r => reSum (reRun reCode ⟨r.2.1.toArray⟩) == r.2.2) = true := by decide +kernel
theorem zt0b2 : ((((zTab0).drop 6).drop 6).take 6).all (fun r => reSum (reRun reCode ⟨r.2.1.toArray⟩) == r.2.2) = true := by decide +kernel
theorem zt0b3 : (((((zTab0).drop 6).drop 6).drop 6).take 6).all (fun r => reSum (reRun reCode ⟨r.2.1.toArray⟩) == r.2.2) = true := by decide +kernel
theorem zt0b4 : ((((((zTab0).drop 6).drop 6).drop 6).drop 6).take 6).all (fun r => reSum (reRun reCode ⟨r.2.1.toArray⟩) == r.2.2) = true := by decide +kernel
theorem zt0b5 : (((((((zTab0).drop 6).drop 6).drop 6).drop 6).drop 6).take 6).all (fun r => reSum (reRun reCode ⟨r.2.1.toArray⟩) == r.2.2) = true := by decide +kernel
theorem zt0b6 : ((((((((zTab0).drop 6).drop 6).drop 6).drop 6).drop 6).drop 6).take 6).all (fun r => reSum (reRun reCode ⟨r.2.1.toArray⟩) == r.2.2) = true := by decide +kernel
theorem zt0b7 : (((((((((zTab0).drop 6).drop 6).drop 6).drop 6).drop 6).drop 6).drop 6).take 6).all (fun r => reSum (reRun reCode ⟨r.2.1.toArray⟩) == r.2.2) = true := by decide +kernel
theorem zt0b8 : (((((((((zTab0).drop 6).drop 6).drop 6).drop 6).drop 6).drop 6).drop 6).drop 6).all (fun r => reSum (reRun reCode ⟨r.2.1.toArray⟩) == r.2.2) = true := by decide +kernel
theorem zt0b : zTab0.all (fun r => reSum (reRun reCode ⟨r.2.1.toArray⟩) == r.2.2) = true :=
  all_cut 6 zt0b0 (all_cut 6 zt0b1 (all_cut 6 zt0b2 (all_cut 6 zt0b3 (all_cut 6 zt0b4 (all_cut 6 zt0b5 (all_cut 6 zt0b6 (all_cut 6 zt0b7 (zt0b8))))))))
theorem zt0c : zTab0.all (fun r => zSums r.1 r.2.1 r.2.2) = true := by decide +kernel
theorem zt1a : zTab1.all (fun r => (zoneText r.1 1).cps.toList == r.2.1) = true := by decide +kernel
theorem zt1b0 : ((zTab1).take 6).all (fun r => reSum (reRun reCode ⟨r.2.1.toArray⟩) == r.2.2) = true := by decide +kernel
theorem zt1b1 : (((zTab1).drop 6).take 6).all (fun r => reSum (reRun reCode ⟨r.2.1.toArray⟩) == r.2.2) = true := by decide +kernel
theorem zt1b2 : ((((zTab1).drop 6).drop 6).take 6).all (fun r => reSum (reRun reCode ⟨r.2.1.toArray⟩) == r.2.2) = true := by decide +kernel
theorem zt1b3 : (((((zTab1).drop 6).drop 6).drop 6).take 6).all (fun r => reSum (reRun reCode ⟨r.2.1.toArray⟩) == r.2.2) = true := by decide +kernel
theorem zt1b4 : ((((((zTab1).drop 6).drop 6).drop 6).drop 6).take 6).all (fun r => reSum (reRun reCode ⟨r.2.1.toArray⟩) == r.2.2) = true := by decide +kernel
theorem zt1b5 : (((((((zTab1).drop 6).drop 6).drop 6).drop 6).drop 6).take 6).all (fun r => reSum (reRun reCode ⟨r.2.1.toArray⟩) == r.2.2) = true := by decide +kernel
theorem zt1b6 : ((((((((zTab1).drop 6).drop 6).drop 6).drop 6).drop 6).drop 6).take 6).all (fun r => reSum (reRun reCode ⟨r.2.1.toArray⟩) == r.2.2) = true := by decide +kernel
theorem zt1b7 : (((((((((zTab1).drop 6).drop 6).drop 6).drop 6).drop 6).drop 6).drop 6).take 6).all (fun r => reSum (reRun reCode ⟨r.2.1.toArray⟩) == r.2.2) = true := by decide +kernel
theorem zt1b8 : (((((((((zTab1).drop 6).drop 6).drop 6).drop 6).drop 6).drop 6).drop 6).drop 6).all (fun r => reSum (reRun reCode ⟨r.2.1.toArray⟩) == r.2.2) = true := by decide +kernel
theorem zt1b : zTab1.all (fun r => reSum (reRun reCode ⟨r.2.1.toArray⟩) == r.2.2) = true :=
  all_cut 6 zt1b0 (all_cut 6 zt1b1 (all_cut 6 zt1b2 (all_cut 6 zt1b3 (all_cut 6 zt1b4 (all_cut 6 zt1b5 (all_cut 6 zt1b6 (all_cut 6 zt1b7 (zt1b8))))))))
theorem zt1c : zTab1.all (fun r => zSums r.1 r.2.1 r.2.2) = true := by decide +kernel
theorem zt2a : zTab2.all (fun r => (zoneText r.1 2).cps.toList == r.2.1) = true := by decide +kernel
theorem zt2b0 : ((zTab2).take 6).all (fun r => reSum (reRun reCode ⟨r.2.1.toArray⟩) == r.2.2) = true := by decide +kernel
theorem zt2b1 : (((zTab2).drop 6).take 6).all (fun r => reSum (reRun reCode ⟨r.2.1.toArray⟩) == r.2.2) = true := by decide +kernel
theorem zt2b2 : ((((zTab2).drop 6).drop 6).take 6).all (fun r => reSum (reRun reCode ⟨r.2.1.toArray⟩) == r.2.2) = true := by decide +kernel
theorem zt2b3 : (((((zTab2).drop 6).drop 6).drop 6).take 6).all (fun r => reSum (reRun reCode ⟨r.2.1.toArray⟩) == r.2.2) = true := by decide +kernel
theorem zt2b4 : ((((((zTab2).drop 6).drop 6).drop 6).drop 6).take 6).all (fun r => reSum (reRun reCode ⟨r.2.1.toArray⟩) == r.2.2) = true := by decide +kernel
theorem zt2b5 : (((((((zTab2).drop 6).drop 6).drop 6).drop 6).drop 6).take 6).all (fun r => reSum (reRun reCode ⟨r.2.1.toArray⟩) == r.2.2) = true := by decide +kernel
theorem zt2b6 : ((((((((zTab2).drop 6).drop 6).drop 6).drop 6).drop 6).drop 6).take 6).all (fun r => reSum (reRun reCode ⟨r.2.1.toArray⟩) == r.2.2) = true := by decide +kernel
theorem zt2b7 : (((((((((zTab2).drop 6).drop 6).drop 6).drop 6).drop 6).drop 6).drop 6).take 6).all (fun r => reSum (reRun reCode ⟨r.2.1.toArray⟩) == r.2.2) = true := by decide +kernel
theorem zt2b8 : (((((((((zTab2).drop 6).drop 6).drop 6).drop 6).drop 6).drop 6).drop 6).drop 6).all (fun r => reSum (reRun reCode ⟨r.2.1.toArray⟩) == r.2.2) = true := by decide +kernel
theorem zt2b : zTab2.all (fun r => reSum (reRun reCode ⟨r.2.1.toArray⟩) == r.2.2) = true :=
  all_cut 6 zt2b0 (all_cut 6 zt2b1 (all_cut 6 zt2b2 (all_cut 6 zt2b3 (all_cut 6 zt2b4 (all_cut 6 zt2b5 (all_cut 6 zt2b6 (all_cut 6 zt2b7 (zt2b8))))))))
theorem zt2c : zTab2.all (fun r => zSums r.1 r.2.1 r.2.2) = true := by decide +kernel
theorem zt0d : (List.range 48).all (fun k => (zTab0.map (·.1)).contains ((k : Int) - 24)) = true := by decide +kernel
theorem zt1d : (List.range 48).all (fun k => (zTab1.map (·.1)).contains ((k : Int) - 24)) = true := by decide +kernel
theorem zt2d : (List.range 48).all (fun k => k == 24 || (zTab2.map (·.1)).contains ((k : Int) - 24)) = true := by decide +kernel
theorem zGmt : (decide (zoneText 0 2 = { cps := #[71, 77, 84] }) || (decide (zoneText 0 2 = { cps := #[85, 84, 67] }) || (decide (zoneText 0 2 = { cps := #[85, 84] }) || (decide (zoneText 0 2 = { cps := #[90] }) || false)))) = true := by decide +kernel
theorem zRow {half : Int} {x : Str} {cs : List Nat} {sp : List Int} (ha : x.cps.toList = cs) (hb : reSum (reRun reCode ⟨cs.toArray⟩) = sp) (hc : zSums half cs sp = true) :
    ∃ y2 n2 g1 g3 n3, TzM x y2 n2 g1 g3 n3 ∧ tzTell n2 g1 g3 n3 = 1800 * half := by
  have hx : x = ⟨cs.toArray⟩ := by
    obtain ⟨c⟩ := x
    subst ha
    simp
  subst hx
  clear ha
  unfold zSums at hc
  simp only [Bool.and_eq_true, decide_eq_true_eq, Bool.not_eq_true'] at hc
  obtain ⟨⟨⟨h8, hl⟩, hz⟩, hm⟩ := hc
  unfold reSum at hb
  split at hb
  case isFalse => rw [← hb] at h8; cases h8
  case isTrue hok =>
    rw [Bool.and_eq_true, Bool.not_eq_true'] at hok
    have hg (g : Nat) : reGroup (reRun reCode ⟨cs.toArray⟩) ⟨cs.toArray⟩ g = zGrp sp cs g := by
      unfold reGroup zGrp
      rw [hb]
    have hlen : Str.length ⟨cs.toArray⟩ ≤ sizeLine := by
      show cs.toArray.size ≤ sizeLine
      rw [List.size_toArray, sizeLine_eq]; omega
    split at hm
    · cases hm
    · rename_i y2 e2
      split at hm
      · cases hm
      · rename_i n2 i2
        rw [Bool.and_eq_true, decide_eq_true_eq] at hm
        obtain ⟨l2, hm⟩ := hm
        split at hm
        · rename_i e3
          refine ⟨y2, n2, zGrp sp cs 1, none, 0, ⟨hz, hlen, hok.1, hok.2, by rw [hg]; exact e2, l2, i2, hg 1, by rw [hg]; exact e3, fun y3 e => (by cases e)⟩, eq_of_beq hm⟩
        · rename_i y3 e3
          split at hm
          · cases hm
          · rename_i n3 i3
            simp only [Bool.and_eq_true, decide_eq_true_eq] at hm
            refine ⟨y2, n2, zGrp sp cs 1, some y3, n3, ⟨hz, hlen, hok.1, hok.2, by rw [hg]; exact e2, l2, i2, hg 1, by rw [hg]; exact e3, fun y e => ?_⟩, eq_of_beq hm.2⟩
            cases e
            exact ⟨i3, hm.1.1, hm.1.2⟩
theorem zOf {half d : Int} {tab : List (Int × List Nat × List Int)} (hm : (tab.map (·.1)).contains half = true) (ha : tab.all (fun r => (zoneText r.1 d).cps.toList == r.2.1) = true)
    (hb : tab.all (fun r => reSum (reRun reCode ⟨r.2.1.toArray⟩) == r.2.2) = true) (hc : tab.all (fun r => zSums r.1 r.2.1 r.2.2) = true) :
    ∃ y2 n2 g1 g3 n3, TzM (zoneText half d) y2 n2 g1 g3 n3 ∧ tzTell n2 g1 g3 n3 = 1800 * half := by
  rw [List.contains_iff_mem] at hm
  obtain ⟨r, hr, rfl⟩ := List.mem_map.mp hm
  exact zRow (eq_of_beq (List.all_eq_true.mp ha r hr)) (eq_of_beq (List.all_eq_true.mp hb r hr)) (List.all_eq_true.mp hc r hr)
theorem zone_tells {half d : Int} (h1 : -24 ≤ half) (h2 : half < 24) (hd : d = 0 ∨ d = 1 ∨ (d = 2 ∧ half ≠ 0)) :
    ∃ y2 n2 g1 g3 n3, TzM (zoneText half d) y2 n2 g1 g3 n3 ∧ tzTell n2 g1 g3 n3 = 1800 * half := by
  have hk : (half + 24).toNat ∈ List.range 48 := List.mem_range.mpr (by omega)
  have e : (((half + 24).toNat : Int) - 24) = half := by omega
  rcases hd with rfl | rfl | ⟨rfl, hz⟩
  · have h := List.all_eq_true.mp zt0d _ hk
    rw [e] at h
    exact zOf h zt0a zt0b zt0c
  · have h := List.all_eq_true.mp zt1d _ hk
    rw [e] at h
    exact zOf h zt1a zt1b zt1c
  · have h := List.all_eq_true.mp zt2d _ hk
    rw [e, Bool.or_eq_true] at h
    rcases h with h | h
    · have := eq_of_beq h; omega
    · exact zOf h zt2a zt2b zt2c
section
variable {w : World} {mean : ExcName → Option Value} {mg mb : Str → Option Value} {loose : List Str} {dp un : Nat} {gd : Option (List Code)} {cn : Str} {cs : Scope} {a : Addr} {ccd : Value} {cl : List (Str × Addr)} {outer : List Env} {A₀ : Around} {base h₀ : Heap} {L : Addr} {m : Str → Option Value} {s : Shared} {Q E : Value → Shared → Prop} {news : List (Addr × Obj)}
theorem off_cl {half d : Int} {t1 : Tok} (B : Below A₀ base outer h₀) (F : Fr h₀ L s.heap m) (X : (hd.heap_39 w.params).In h₀) (N : News h₀ L s.heap news) (T : Top hd.view_39 loose mean mg mb h₀) (hk : cs.kind = .function)
    (hdp : dp + 3 < recursionLimit) (h1 : -24 ≤ half) (h2 : half < 24) (h3 : 0 ≤ d) (h4 : d < 3)
    (hret : ∀ (t : Tok) (h' : Heap) (tk' : Nat), Fr h₀ L h' m → News h₀ L h' news → Q (.int (1800 * half) t) { s with heap := h', toks := tk' }) :
    wpAny (model PySem.Challenge.rw_xg0060_01.row.prog w) (ktrTop dp un gd cn cs L a ccd cl outer) (call (.ref 51) [.str (zoneText half d) t1]) Q E s := by
  by_cases hz : d = 2 ∧ half = 0
  · obtain ⟨rfl, rfl⟩ := hz
    exact off_gmt B F X N T hk hdp zGmt (fun t h' tk' F' N' => hret t h' tk' F' N')
  · obtain ⟨y2, n2, g1, g3, n3, hM, e⟩ := zone_tells (d := d) h1 h2 (by omega)
    exact off_m B F X N T hk hdp hM (fun t h' tk' F' N' => by rw [e]; exact hret t h' tk' F' N')
end
end Mine
end
section
open PySem PySem.W PyProof.Rows PySem.Calls
set_option maxRecDepth 100000
set_option maxHeartbeats 16000000
namespace Mine
section
variable {prog : Program} {w : World} {A : Around} {E : Value → Shared → Prop} {s : Shared} {env : Env} {h₀ : Heap} {x : Str} {body : List Stmt} {Q : Flow → Shared → Prop}
noncomputable def TxEnd (h₀ : Heap) (L : Addr) (I : Addr) (io : Obj) (J : (Str → Option Value) → List (Addr × Obj) → Prop) (s₁ s₂ : Shared) : Prop :=
  ∃ h' tk m' nx, s₂ = { s₁ with heap := h', toks := tk } ∧ Fr h₀ L h' m' ∧ News h₀ L h' ((I, io) :: nx) ∧ (∀ p ∈ nx, p.1 ≠ I) ∧ J m' nx
noncomputable def TxPost (h₀ : Heap) (L : Addr) (I : Addr) (io : Obj) (J : (Str → Option Value) → List (Addr × Obj) → Prop) (s₁ : Shared) (Q : Flow → Shared → Prop) (f : Flow) (s₂ : Shared) : Prop :=
  match f with
  | .ret v => Q (.ret v) s₂
  | .brk => Q .next s₂
  | _ => TxEnd h₀ L I io J s₁ s₂
theorem iter_walks {I : Addr} {n : Nat} {P : Nat → Value → Prop} {St : Nat → Heap → Prop} {m₀ : Str → Option Value} {news : List (Addr × Obj)} (J : Nat → (Str → Option Value) → List (Addr × Obj) → Prop)
    (W : Walks prog w A I [I] [I] n P St) (hSt : ∀ i h, St i h → ∃ o, h.get? I = some o) (hI : h₀.get? I = none) (hL : env.locals ≠ I) (hst : St 0 s.heap) (F : Fr h₀ env.locals s.heap m₀) (N : News h₀ env.locals s.heap news) (hN : ∀ p ∈ news, p.1 ≠ I) (hj : J 0 m₀ news)
    (turn : ∀ i v m₁ nx io h tk, i < n → P i v → J i m₁ nx → (∀ p ∈ nx, p.1 ≠ I) → Fr h₀ env.locals h (fun y => if y = x then some v else m₁ y) → News h₀ env.locals h ((I, io) :: nx) →
      wpAny (model prog w) A (execs body env) (TxPost h₀ env.locals I io (J (i + 1)) { s with heap := h, toks := tk } Q) E { s with heap := h, toks := tk })
    (done : ∀ m₁ nx h tk, J n m₁ nx → Fr h₀ env.locals h m₁ → News h₀ env.locals h nx → Q .next { s with heap := h, toks := tk }) :
    LoopAtV prog w A h₀ env x body Q E (.ref I) s := by
  refine ⟨I, [I], [I], n, P, St, m₀, news, J, rfl, W, fun hm => hL (List.mem_singleton.mp hm), fun b hb => by rw [List.mem_singleton.mp hb]; exact hI, fun p hp hm => hN p hp (List.mem_singleton.mp hm), hst, F, N, hj, ?_, ?_⟩
  · rintro i v m₁ nx s₁ own ⟨h, tk, rfl⟩ hin hP hJ hoff hown hown2 hown3 hst' F₁ N₁
    obtain ⟨io, hio⟩ := hSt _ _ hst'
    have hmem : (I, io) ∈ own := hown3 I (List.mem_singleton.mpr rfl) hI io hio
    have hne : ∀ p ∈ nx, p.1 ≠ I := fun p hp e => hoff p hp (List.mem_singleton.mpr e)
    refine wpAny_mono (turn i v m₁ nx io h tk hin hP hJ hne F₁ (fun p hp => ?_)) (fun f s₂ q => ?_) fun _ _ e => e
    · rcases List.mem_cons.mp hp with e | hp
      · rw [e]; exact N₁ _ (List.mem_append_left _ hmem)
      · exact N₁ p (List.mem_append_right _ hp)
    · have fin : TxEnd h₀ env.locals I io (J (i + 1)) { s with heap := h, toks := tk } s₂ → LoopStepU h₀ env.locals [I] own (J (i + 1)) { s with heap := h, toks := tk } .next s₂ := by
        rintro ⟨h', tk', m', nx', rfl, F', N', hn', hJ'⟩
        refine ⟨rfl, h', tk', m', nx', rfl, F', fun p hp => ?_, fun p hp hm => hn' p hp (List.mem_singleton.mp hm), hJ'⟩
        rcases List.mem_append.mp hp with hp | hp
        · have e1 : p.1 = I := List.mem_singleton.mp (hown p hp)
          have e2 := hown2 p hp
          have e3 : p = (I, io) := by
            obtain ⟨a, o⟩ := p
            simp only at e1 e2
            subst e1
            rw [hio] at e2
            cases e2; rfl
          rw [e3]; exact N' _ (.head _)
        · exact N' p (List.mem_cons_of_mem _ hp)
      cases f with
      | ret v => exact .ret q
      | brk => exact .brk q
      | next => exact .next (fin q)
      | cont => exact .cont (fin q)
  · rintro h' tk m' nx F' N' _ hJ
    exact done m' nx h' tk hJ F' N'
theorem iter_text {xt : Str} {tx : Tok} {m₀ : Str → Option Value} {news : List (Addr × Obj)} (J : Nat → (Str → Option Value) → List (Addr × Obj) → Prop)
    (hh : A.handled = none) (F : Fr h₀ env.locals s.heap m₀) (N : News h₀ env.locals s.heap news) (hj : J 0 m₀ news)
    (turn : ∀ i n u m₁ nx I io h tk, xt.cps[i]? = some n → J i m₁ nx → (∀ p ∈ nx, p.1 ≠ I) → Fr h₀ env.locals h (fun y => if y = x then some (.str ⟨#[n]⟩ u) else m₁ y) → News h₀ env.locals h ((I, io) :: nx) →
      wpAny (model prog w) A (execs body env) (TxPost h₀ env.locals I io (J (i + 1)) { s with heap := h, toks := tk } Q) E { s with heap := h, toks := tk })
    (done : ∀ m₁ nx h tk, J xt.cps.size m₁ nx → Fr h₀ env.locals h m₁ → News h₀ env.locals h nx → Q .next { s with heap := h, toks := tk }) :
    wpAny (model prog w) A (pyIter (.str xt tx)) (fun it s₂ => LoopAtV prog w A h₀ env x body Q E it s₂) E s := by
  have hI := next_is_new F
  have hL : env.locals ≠ s.heap.objs.size := Nat.ne_of_lt F.ns.lt
  have hN : ∀ p ∈ news, p.1 ≠ s.heap.objs.size := fun p hp => Nat.ne_of_lt (Heap.lt_size (N p hp).1)
  cases ha : xt.cps.all (· < 128)
  · refine wpAny_pyIter_wide ha ?_
    refine iter_walks J (Walks.strWide hh _ xt tx) (fun i h st => let ⟨o, ho, _⟩ := st; ⟨o, ho⟩) hI hL ⟨_, Heap.get?_push_size _ rfl, rfl, rfl⟩ (F.push _) (fun p hp => ⟨Heap.get?_push_of_some _ (N p hp).1, (N p hp).2⟩) hN hj ?_ done
    rintro i v m₁ nx io h tk hin ⟨n, u, hn, rfl⟩ hJ hne F₁ N₁
    exact turn i n u m₁ nx _ io h tk hn hJ hne F₁ N₁
  · refine wpAny_pyIter_ascii ha ?_
    refine iter_walks J (Walks.strAscii hh _ xt tx) (fun i h st => let ⟨o, ho, _⟩ := st; ⟨o, ho⟩) hI hL ⟨_, Heap.get?_push_size _ rfl, rfl, rfl⟩ (F.push _) (fun p hp => ⟨Heap.get?_push_of_some _ (N p hp).1, (N p hp).2⟩) hN hj ?_ done
    rintro i v m₁ nx io h tk hin ⟨n, u, hn, rfl⟩ hJ hne F₁ N₁
    exact turn i n u m₁ nx _ io h tk hn hJ hne F₁ N₁
end
end Mine
end
section
open PySem PySem.W PyProof.Rows PySem.Calls
set_option maxRecDepth 100000
set_option maxHeartbeats 16000000
namespace Mine
structure WS where
  cnt : List Int
  b : Int
  n : Int
  nt : Int
noncomputable def wsGrow (c : List Int) (b : Int) : List Int := if (c.length : Int) ≤ b then c ++ (List.replicate (b - (c.length : Int) + 1).toNat [0]).flatten else c
noncomputable def wsBump (c : List Int) (b : Int) : List Int := (wsGrow c b).set b.toNat ((wsGrow c b).getD b.toNat 0 + 1)
noncomputable def wsStep (st : WS) (ch : Nat) : WS := if ch = 32 then ⟨st.cnt, st.b + 1, st.n + 1, st.nt⟩ else ⟨wsBump st.cnt st.b, 0, st.n + 1, st.nt + 1⟩
noncomputable def wsFold (cs : List Nat) : WS := cs.foldl wsStep ⟨[], 0, 0, 0⟩
theorem flat_zeros : ∀ k : Nat, (List.replicate k [(0 : Int)]).flatten = List.replicate k 0
  | 0 => rfl
  | k + 1 => by rw [List.replicate_succ, List.flatten_cons, flat_zeros k, List.replicate_succ]; rfl
theorem wsGrow_len (c : List Int) (b : Int) (hb : 0 ≤ b) : b < ((wsGrow c b).length : Int) ∧ ((wsGrow c b).length : Int) ≤ max (c.length : Int) (b + 1) := by
  unfold wsGrow
  split
  · rw [flat_zeros, List.length_append, List.length_replicate]; omega
  · omega
theorem wsBump_len (c : List Int) (b : Int) (hb : 0 ≤ b) : ((wsBump c b).length : Int) ≤ max (c.length : Int) (b + 1) := by
  unfold wsBump
  rw [List.length_set]
  exact (wsGrow_len c b hb).2
noncomputable def WOk (i : Nat) (st : WS) : Prop := 0 ≤ st.b ∧ st.b ≤ (i : Int) ∧ (st.cnt.length : Int) ≤ (i : Int)
theorem wOk_step {i : Nat} {st : WS} (h : WOk i st) (ch : Nat) : WOk (i + 1) (wsStep st ch) := by
  obtain ⟨h1, h2, h3⟩ := h
  unfold wsStep
  split
  · exact ⟨by show 0 ≤ st.b + 1; omega, by show st.b + 1 ≤ ((i + 1 : Nat) : Int); omega, by show (st.cnt.length : Int) ≤ ((i + 1 : Nat) : Int); omega⟩
  · have := wsBump_len st.cnt st.b h1
    exact ⟨Int.le_refl 0, by show (0 : Int) ≤ ((i + 1 : Nat) : Int); omega, by show ((wsBump st.cnt st.b).length : Int) ≤ ((i + 1 : Nat) : Int); omega⟩
noncomputable def WJ (m₀ : Str → Option Value) (R : List (Addr × Obj)) (st : WS) (m : Str → Option Value) (nx : List (Addr × Obj)) : Prop :=
  ∃ (c : Addr) (its : List Value) (k : Nat) (tn tnt tb : Tok), IntsAre its st.cnt ∧ nx = (c, listOf its.toArray k) :: R ∧ (∀ p ∈ R, p.1 < c) ∧
    m (Str.ofString "n") = some (.int st.n tn) ∧ m (Str.ofString "nt") = some (.int st.nt tnt) ∧ m (Str.ofString "b") = some (.int st.b tb) ∧ m (Str.ofString "count") = some (.ref c) ∧
    ∀ z, z ≠ Str.ofString "ch" → z ≠ Str.ofString "n" → z ≠ Str.ofString "nt" → z ≠ Str.ofString "b" → z ≠ Str.ofString "count" → m z = m₀ z
theorem wj_map {m₀ m₁ : Str → Option Value} {c : Addr} {st : WS} {tn tnt tb : Tok} {v : Value} (h1 : m₁ (Str.ofString "n") = some (.int st.n tn)) (h2 : m₁ (Str.ofString "nt") = some (.int st.nt tnt)) (h3 : m₁ (Str.ofString "b") = some (.int st.b tb)) (h4 : m₁ (Str.ofString "count") = some (.ref c))
    (hm : ∀ z, z ≠ Str.ofString "ch" → z ≠ Str.ofString "n" → z ≠ Str.ofString "nt" → z ≠ Str.ofString "b" → z ≠ Str.ofString "count" → m₁ z = m₀ z) :
    (fun z => if z = Str.ofString "ch" then some v else m₁ z) = fun z => if z = Str.ofString "ch" then some v else if z = Str.ofString "n" then some (.int st.n tn) else if z = Str.ofString "nt" then some (.int st.nt tnt)
      else if z = Str.ofString "b" then some (.int st.b tb) else if z = Str.ofString "count" then some (.ref c) else m₀ z := by
  funext z
  by_cases e0 : z = Str.ofString "ch"
  · rw [if_pos e0, if_pos e0]
  rw [if_neg e0, if_neg e0]
  by_cases e1 : z = Str.ofString "n"
  · rw [if_pos e1, e1, h1]
  rw [if_neg e1]
  by_cases e2 : z = Str.ofString "nt"
  · rw [if_pos e2, e2, h2]
  rw [if_neg e2]
  by_cases e3 : z = Str.ofString "b"
  · rw [if_pos e3, e3, h3]
  rw [if_neg e3]
  by_cases e4 : z = Str.ofString "count"
  · rw [if_pos e4, e4, h4]
  rw [if_neg e4]
  exact hm z e0 e1 e2 e3 e4
section
variable {prog : Program} {w : World} {A : Around} {E : Value → Shared → Prop} {s : Shared} {env : Env} {h₀ : Heap} {body : List Stmt} {Q : Flow → Shared → Prop}
noncomputable abbrev WTurn (prog : Program) (w : World) (A : Around) (E : Value → Shared → Prop) (s : Shared) (env : Env) (h₀ : Heap) (body : List Stmt) (Q : Flow → Shared → Prop) (m₀ : Str → Option Value) (R : List (Addr × Obj)) (len : Nat) (ch : Nat) : Prop :=
  ∀ (i : Nat) (st : WS) (u : Tok) (c : Addr) (its : List Value) (k : Nat) (tn tnt tb : Tok) (I : Addr) (io : Obj) (h : Heap) (tk : Nat), i < len → WOk i st → IntsAre its st.cnt → (∀ p ∈ R, p.1 < c) → (∀ p ∈ (c, listOf its.toArray k) :: R, p.1 ≠ I) →
    Fr h₀ env.locals h (fun z => if z = Str.ofString "ch" then some (.str ⟨#[ch]⟩ u) else if z = Str.ofString "n" then some (.int st.n tn) else if z = Str.ofString "nt" then some (.int st.nt tnt)
      else if z = Str.ofString "b" then some (.int st.b tb) else if z = Str.ofString "count" then some (.ref c) else m₀ z) → News h₀ env.locals h ((I, io) :: (c, listOf its.toArray k) :: R) →
    wpAny (model prog w) A (execs body env) (TxPost h₀ env.locals I io (WJ m₀ R (wsStep st ch)) { s with heap := h, toks := tk } Q) E { s with heap := h, toks := tk }
theorem ws_loop {raw : Str} {tx : Tok} {pre : List Nat} {m₀ : Str → Option Value} {R : List (Addr × Obj)} {c₀ : Addr} {k₀ : Nat} {t1 t2 t3 : Tok}
    (hh : A.handled = none) (F : Fr h₀ env.locals s.heap m₀) (N : News h₀ env.locals s.heap ((c₀, listOf #[] k₀) :: R)) (hc : ∀ p ∈ R, p.1 < c₀)
    (h1 : m₀ (Str.ofString "n") = some (.int 0 t1)) (h2 : m₀ (Str.ofString "nt") = some (.int 0 t2)) (h3 : m₀ (Str.ofString "b") = some (.int 0 t3)) (h4 : m₀ (Str.ofString "count") = some (.ref c₀))
    (hr : raw.cps.toList = pre ++ [120, 9]) (hp : ∀ ch ∈ pre, ch = 32 ∨ ch = 9)
    (space : WTurn prog w A E s env h₀ body Q m₀ R pre.length 32) (tab : WTurn prog w A E s env h₀ body Q m₀ R pre.length 9)
    (stop : ∀ (u : Tok) (c : Addr) (its : List Value) (k : Nat) (tn tnt tb : Tok) (I : Addr) (io : Obj) (h : Heap) (tk : Nat), WOk pre.length (wsFold pre) → IntsAre its (wsFold pre).cnt → (∀ p ∈ R, p.1 < c) → (∀ p ∈ (c, listOf its.toArray k) :: R, p.1 ≠ I) →
      Fr h₀ env.locals h (fun z => if z = Str.ofString "ch" then some (.str ⟨#[120]⟩ u) else if z = Str.ofString "n" then some (.int (wsFold pre).n tn) else if z = Str.ofString "nt" then some (.int (wsFold pre).nt tnt)
        else if z = Str.ofString "b" then some (.int (wsFold pre).b tb) else if z = Str.ofString "count" then some (.ref c) else m₀ z) → News h₀ env.locals h ((I, io) :: (c, listOf its.toArray k) :: R) →
      wpAny (model prog w) A (execs body env) (TxPost h₀ env.locals I io (fun _ _ => False) { s with heap := h, toks := tk } Q) E { s with heap := h, toks := tk }) :
    wpAny (model prog w) A (pyIter (.str raw tx)) (fun it s₂ => LoopAtV prog w A h₀ env (Str.ofString "ch") body Q E it s₂) E s := by
  have hsz : raw.cps.size = pre.length + 2 := by
    rw [← Array.length_toList, hr, List.length_append]; rfl
  refine iter_text (fun i m nx => i ≤ pre.length ∧ WOk i (wsFold (pre.take i)) ∧ WJ m₀ R (wsFold (pre.take i)) m nx) hh F N
    ⟨Nat.zero_le _, ⟨Int.le_refl _, Int.le_refl _, Int.le_refl _⟩, c₀, [], k₀, t1, t2, t3, .nil, rfl, hc, h1, h2, h3, h4, fun _ _ _ _ _ _ => rfl⟩ ?_ ?_
  · rintro i n u m₁ nx I io h tk hn ⟨hi, hok, c, its, k, tn, tnt, tb, hI, rfl, hlt, g1, g2, g3, g4, gm⟩ hne F₁ N₁
    rw [wj_map g1 g2 g3 g4 gm] at F₁
    have hn' : (pre ++ [120, 9])[i]? = some n := by
      rw [← hr, ← hn]; simp
    by_cases hlast : i = pre.length
    · have hn2 : n = 120 := by
        rw [hlast, List.getElem?_append_right (Nat.le_refl _), Nat.sub_self] at hn'
        exact (Option.some.inj hn').symm
      subst hn2
      have ht : pre.take i = pre := by rw [hlast]; exact List.take_length
      rw [ht] at hok hI F₁
      rw [hlast] at hok
      refine wpAny_mono (stop u c its k tn tnt tb I io h tk hok hI hlt hne F₁ N₁) (fun f s₂ q => ?_) fun _ _ e => e
      cases f with
      | ret v => exact q
      | brk => exact q
      | next => obtain ⟨_, _, _, _, _, _, _, _, hf⟩ := q; exact hf.elim
      | cont => obtain ⟨_, _, _, _, _, _, _, _, hf⟩ := q; exact hf.elim
    · have hi' : i < pre.length := Nat.lt_of_le_of_ne hi hlast
      rw [List.getElem?_append_left hi'] at hn'
      have hmem : n ∈ pre := List.mem_of_getElem? hn'
      have hs : wsFold (pre.take (i + 1)) = wsStep (wsFold (pre.take i)) n := by
        unfold wsFold
        rw [List.take_add_one, hn', List.foldl_append]; rfl
      have fin : ∀ {J : (Str → Option Value) → List (Addr × Obj) → Prop}, (∀ m' nx', J m' nx' → WJ m₀ R (wsStep (wsFold (pre.take i)) n) m' nx') → ∀ f s₂, TxPost h₀ env.locals I io J { s with heap := h, toks := tk } Q f s₂ →
          TxPost h₀ env.locals I io (fun m nx => i + 1 ≤ pre.length ∧ WOk (i + 1) (wsFold (pre.take (i + 1))) ∧ WJ m₀ R (wsFold (pre.take (i + 1))) m nx) { s with heap := h, toks := tk } Q f s₂ := by
        intro J hJ f s₂ q
        rw [hs]
        cases f with
        | ret v => exact q
        | brk => exact q
        | next => obtain ⟨a, b, c', d, e, f', g, i', hf⟩ := q; exact ⟨a, b, c', d, e, f', g, i', hi', wOk_step hok n, hJ _ _ hf⟩
        | cont => obtain ⟨a, b, c', d, e, f', g, i', hf⟩ := q; exact ⟨a, b, c', d, e, f', g, i', hi', wOk_step hok n, hJ _ _ hf⟩
      rcases hp n hmem with rfl | rfl
      · exact wpAny_mono (space i _ u c its k tn tnt tb I io h tk hi' hok hI hlt hne F₁ N₁) (fin fun _ _ q => q) fun _ _ e => e
      · exact wpAny_mono (tab i _ u c its k tn tnt tb I io h tk hi' hok hI hlt hne F₁ N₁) (fin fun _ _ q => q) fun _ _ e => e
  · rintro m₁ nx h tk ⟨hi, _⟩ _ _
    rw [hsz] at hi
    omega
theorem tx_end {L c I : Addr} {io : Obj} {its : List Value} {k : Nat} {R : List (Addr × Obj)} {st : WS} {tn tnt tb : Tok} {m₀ m' : Str → Option Value} {h' : Heap} {tk' : Nat} {s₁ : Shared}
    (F : Fr h₀ L h' m') (N : News h₀ L h' ((I, io) :: (c, listOf its.toArray k) :: R)) (hI : IntsAre its st.cnt) (hlt : ∀ p ∈ R, p.1 < c) (hne : ∀ p ∈ (c, listOf its.toArray k) :: R, p.1 ≠ I)
    (h1 : m' (Str.ofString "n") = some (.int st.n tn)) (h2 : m' (Str.ofString "nt") = some (.int st.nt tnt)) (h3 : m' (Str.ofString "b") = some (.int st.b tb)) (h4 : m' (Str.ofString "count") = some (.ref c))
    (hm : ∀ z, z ≠ Str.ofString "ch" → z ≠ Str.ofString "n" → z ≠ Str.ofString "nt" → z ≠ Str.ofString "b" → z ≠ Str.ofString "count" → m' z = m₀ z) :
    TxEnd h₀ L I io (WJ m₀ R st) s₁ { s₁ with heap := h', toks := tk' } :=
  ⟨h', tk', m', _, rfl, F, N, hne, c, its, k, tn, tnt, tb, hI, rfl, hlt, h1, h2, h3, h4, hm⟩
theorem lt_drop4 {D : Nat} {a1 a2 a3 a4 : Nat} {R : List (Addr × Obj)} (h : a1 < D ∧ a2 < D ∧ a3 < D ∧ a4 < D ∧ AllLt D R) : ∀ p ∈ R, p.1 < D := ktn_ltOf h.2.2.2.2
theorem ne_cons {D I c : Nat} {o o' : Obj} {R : List (Addr × Obj)} (h : D ≠ I) (hne : ∀ p ∈ ((c, o) : Addr × Obj) :: R, p.1 ≠ I) : ∀ p ∈ ((D, o') : Addr × Obj) :: R, p.1 ≠ I := fun p hp => by
  rcases List.mem_cons.mp hp with rfl | hp
  · exact h
  · exact hne p (.tail _ hp)
theorem drop_tab {L : Addr} {h : Heap} {a b1 b2 i c : Addr × Obj} {R : List (Addr × Obj)} (N : News h₀ L h (a :: b1 :: b2 :: i :: c :: R)) : News h₀ L h (i :: a :: R) := fun p hp => by
  rcases List.mem_cons.mp hp with rfl | hp
  · exact N _ (.tail _ (.tail _ (.tail _ (.head _))))
  · rcases List.mem_cons.mp hp with rfl | hp
    · exact N _ (.head _)
    · exact N p (.tail _ (.tail _ (.tail _ (.tail _ (.tail _ hp)))))
theorem ws_drop {L : Addr} {h : Heap} {a b i c t x d : Addr × Obj} {R : List (Addr × Obj)} (N : News h₀ L h (a :: b :: i :: c :: t :: x :: d :: R)) : News h₀ L h (x :: d :: a :: b :: R) := fun p hp => by
  rcases List.mem_cons.mp hp with rfl | hp
  · exact N _ (.tail _ (.tail _ (.tail _ (.tail _ (.tail _ (.head _))))))
  rcases List.mem_cons.mp hp with rfl | hp
  · exact N _ (.tail _ (.tail _ (.tail _ (.tail _ (.tail _ (.tail _ (.head _)))))))
  rcases List.mem_cons.mp hp with rfl | hp
  · exact N _ (.head _)
  rcases List.mem_cons.mp hp with rfl | hp
  · exact N _ (.tail _ (.head _))
  exact N p (.tail _ (.tail _ (.tail _ (.tail _ (.tail _ (.tail _ (.tail _ hp)))))))
/-- what a lead's object holds -/
noncomputable abbrev wsDict (P : Params) (t1 t2 t3 t4 t5 : Tok) (raw n nt simple : Value) (D1 : Addr) : Obj := dictOf [
  { hash := PyData.keyHash P (Str.ofString "raw"), key := .str (Str.ofString "raw") t1, val := raw },
  { hash := PyData.keyHash P (Str.ofString "n"), key := .str (Str.ofString "n") t2, val := n },
  { hash := PyData.keyHash P (Str.ofString "nt"), key := .str (Str.ofString "nt") t3, val := nt },
  { hash := PyData.keyHash P (Str.ofString "norm"), key := .str (Str.ofString "norm") t4, val := .ref D1 },
  { hash := PyData.keyHash P (Str.ofString "is_simple"), key := .str (Str.ofString "is_simple") t5, val := simple }] 5
noncomputable abbrev tupO (vs : List Value) (n : Nat) : Obj := { cls := .type "tuple", data := .seq vs.toArray n }
end
end Mine
end
section
open PySem PySem.W PyProof.Rows PySem.Calls
set_option maxRecDepth 100000
set_option maxHeartbeats 16000000
namespace Mine
example (P : Params) : PySem.Challenge.rw_xg0060_01 = PySem.Challenge.rw_xg0060_01 ∧ hd.heap_39 P = hd.heap_39 P := by
  w_top off
  k_fill
  exact ⟨rfl, rfl⟩
example : True := by
  k_with_none
  (k_with "k_enter" => cell_enter)
  trivial
theorem ne_allLt {D : Addr} {l : List (Addr × Obj)} (h : AllLt D l) : ∀ p ∈ l, p.1 ≠ D := by
  induction l with
  | nil => intro p hp; cases hp
  | cons q r ih =>
    intro p hp
    rcases List.mem_cons.mp hp with rfl | hp
    · exact Nat.ne_of_lt h.1
    · exact ih h.2 p hp
example : True := by
  (k_with "k_all" => first | exact ne_allLt (by assumption) | exact fun p hp => Nat.ne_of_lt ((by assumption : ∀ p ∈ _, p.1 < _) p hp))
  (k_with "TxPost" => (dsimp only [TxPost]))
  (k_with "call type:tuple" => (k_here; (with_reducible show wpAny _ _ (call (Value.type _) [Value.ref _]) _ _ _); k_dflt (refine' kde_tupleOf ?k1Zq ?k2Zq ?k3Zq ?k4Zq ?k5Zq ?_; (case k1Zq => k_asm); (case k2Zq => k_asm); (case k3Zq => exact News.isList (by k_asm) (by k_mem)); (case k4Zq => ((rename IntsAre _ _ => qI); rw [List.size_toArray, IntsAre.length qI]; omega)); (case k5Zq => rfl); k_whole); intro D' h' F' N' l1; (try k_lt l1); (try k_sweep)))
  trivial
section
variable {w : World} {mean : ExcName → Option Value} {mg mb : Str → Option Value} {loose : List Str} {dp un : Nat} {gd : Option (List Code)} {cn : Str} {cs : Scope} {a : Addr} {ccd : Value} {cl : List (Str × Addr)} {outer : List Env} {A₀ : Around} {base h₀ : Heap} {L : Addr} {m : Str → Option Value} {s : Shared} {Q E : Value → Shared → Prop} {news : List (Addr × Obj)}
theorem ws_cl {raw : Str} {t1 : Tok} {pre : List Nat} (B : Below A₀ base outer h₀) (F : Fr h₀ L s.heap m) (X : (hd.heap_39 w.params).In h₀) (N : News h₀ L s.heap news) (T : Top hd.view_39 loose mean mg mb h₀) (hk : cs.kind = .function)
    (hdp : dp + 3 < recursionLimit) (hun : un + 60 < cLine) (hr : raw.cps.toList = pre ++ [120, 9]) (hp : ∀ ch ∈ pre, ch = 32 ∨ ch = 9) (hlen : pre.length ≤ 100)
    (hret : ∀ (x d D1 D2 : Addr) (t1 t2 t3 t4 t5 t6 t7 t8 : Tok) (rv sv : Value) (its : List Value) (n1 n2 : Nat) (h' : Heap) (tk' : Nat), Fr h₀ L h' m →
      News h₀ L h' ((x, instObj 134 d) :: (d, wsDict w.params t1 t2 t3 t4 t5 rv (.int (wsFold pre).n t6) (.int (wsFold pre).nt t7) sv D1) :: (D1, tupO [.ref D2, .int (wsFold pre).b t8] n1) :: (D2, tupO its n2) :: news) →
      IntsAre its (wsFold pre).cnt → (wsFold pre).cnt.length ≤ 100 → (∀ p ∈ news, p.1 < d) → d < x → x < D2 → D2 < D1 → Q (.ref x) { s with heap := h', toks := tk' }) :
    wpAny (model PySem.Challenge.rw_xg0060_01.row.prog w) (ktrTop dp un gd cn cs L a ccd cl outer) (call (.ref 134) [.str raw t1]) Q E s := by
  k_steps
  (rename Fr _ _ _ _ => wF)
  (rename News _ _ _ _ => wN)
  refine' ws_loop (pre := pre) ?hh wF wN ?hc ?h1 ?h2 ?h3 ?h4 hr hp ?space ?tab ?stop
  case hh => exact rfl
  case hc => exact ktn_ltOf (by simp only [AllLt]; assumption)
  case h1 => rfl
  case h2 => rfl
  case h3 => rfl
  case h4 => rfl
  case space =>
    clear wF wN
    intro i st u c its k tn tnt tb I io h tk hi hok hI hlt hne wF wN
    obtain ⟨cnt, b, n, nt⟩ := st
    obtain ⟨hb0, hb1, hc1⟩ := hok
    dsimp only at hb0 hb1 hc1 hI wF
    have hcl : cnt.length < 2 ^ 62 := by omega
    have hcI := neN (hne _ (.head _))
    dsimp only at hcI
    have hlt0 := hlt
    replace hlt := allLt_of hlt
    simp only [AllLt] at hlt
    k_steps
    all_goals (refine' tx_end (by assumption) (by assumption) ?hI ?hlt ?hne rfl rfl rfl rfl ?hm)
    case hI => exact hI
    case hlt => exact hlt0
    case hne => exact hne
    case hm => intro z z1 z2 z3 z4 z5; simp only [if_neg z1, if_neg z2, if_neg z3, if_neg z4, if_neg z5]
  case tab =>
    clear wF wN
    intro i st u c its k tn tnt tb I io h tk hi hok hI hlt hne wF wN
    obtain ⟨cnt, b, n, nt⟩ := st
    obtain ⟨hb0, hb1, hc1⟩ := hok
    dsimp only at hb0 hb1 hc1 hI wF
    have hcl : cnt.length < 2 ^ 62 := by omega
    have hcI := neN (hne _ (.head _))
    dsimp only at hcI
    have hlt0 := hlt
    replace hlt := allLt_of hlt
    simp only [AllLt] at hlt
    k_steps
    · refine' tx_end (by assumption) (drop_tab (by assumption)) ?hI ?hlt ?hne rfl rfl rfl rfl ?hm
      case hI => show IntsAre _ (wsBump cnt b); unfold wsBump wsGrow; rw [if_pos (by assumption)]; assumption
      case hlt => exact lt_drop4 (by assumption)
      case hne => exact ne_cons (neN (by omega)) hne
      case hm => intro z z1 z2 z3 z4 z5; simp only [if_neg z1, if_neg z2, if_neg z3, if_neg z4, if_neg z5]
    · refine' tx_end (by assumption) (by assumption) ?hI ?hlt ?hne rfl rfl rfl rfl ?hm
      case hI => show IntsAre _ (wsBump cnt b); unfold wsBump wsGrow; rw [if_neg (by assumption)]; assumption
      case hlt => exact hlt0
      case hne => exact ne_cons (neN (by omega)) hne
      case hm => intro z z1 z2 z3 z4 z5; simp only [if_neg z1, if_neg z2, if_neg z3, if_neg z4, if_neg z5]
  case stop =>
    clear wF wN
    intro u c its k tn tnt tb I io h tk hok hI hlt hne wF wN
    obtain ⟨hb0, hb1, hc1⟩ := hok
    have hcl : (wsFold pre).cnt.length < 2 ^ 62 := by omega
    have hcI := neN (hne _ (.head _))
    have hq1 := neN (hne _ (.tail _ (.head _)))
    have hq2 := neN (hne _ (.tail _ (.tail _ (.head _))))
    have hq3 := neN (hne _ (.tail _ (.tail _ (.tail _ (.head _)))))
    dsimp only at hcI hq1 hq2 hq3
    have hlt0 := hlt
    replace hlt := allLt_of hlt
    simp only [AllLt] at hlt
    k_steps
    all_goals (refine' hret _ _ _ _ _ _ _ _ _ _ _ _ _ _ _ _ _ _ _ (by assumption) (ws_drop (by assumption)) hI ?_ (by assumption) ?_ ?_ ?_)
    all_goals first | assumption | omega | (refine ltN ?_; omega)
end
end Mine
end
section
open PySem PySem.W PyProof.Rows PySem.Calls
set_option maxRecDepth 100000
set_option maxHeartbeats 16000000
namespace Mine
section
variable {prog : Program} {w : World} {A : Around} {E : Value → Shared → Prop} {s : Shared} {env : Env} {h₀ : Heap} {x : Str} {body : List Stmt} {Q : Flow → Shared → Prop} {L : Addr} {m : Str → Option Value} {news : List (Addr × Obj)}
theorem iter_rng {r : Addr} {a₀ b₀ : Int} {t₀ u₀ v₀ : Tok} {n : Nat} {m₀ : Str → Option Value} {news : List (Addr × Obj)} (J : Nat → (Str → Option Value) → List (Addr × Obj) → Prop)
    (hh : A.handled = none) (hr : IsRange s.heap r a₀ b₀ 1 t₀ u₀ v₀) (hsmall : Builtin.Range.small a₀ b₀ 1 = true) (hn : Builtin.Range.rangeSize a₀ b₀ 1 = (n : Int)) (F : Fr h₀ env.locals s.heap m₀) (N : News h₀ env.locals s.heap news) (hj : J 0 m₀ news)
    (turn : ∀ i u m₁ nx I io h tk, i < n → J i m₁ nx → (∀ p ∈ nx, p.1 ≠ I) → Fr h₀ env.locals h (fun y => if y = x then some (.int (a₀ + (i : Int)) u) else m₁ y) → News h₀ env.locals h ((I, io) :: nx) →
      wpAny (model prog w) A (execs body env) (TxPost h₀ env.locals I io (J (i + 1)) { s with heap := h, toks := tk } Q) E { s with heap := h, toks := tk })
    (done : ∀ m₁ nx h tk, J n m₁ nx → Fr h₀ env.locals h m₁ → News h₀ env.locals h nx → Q .next { s with heap := h, toks := tk }) :
    wpAny (model prog w) A (pyIter (.ref r)) (fun it s₂ => LoopAtV prog w A h₀ env x body Q E it s₂) E s := by
  have hI := next_is_new F
  have hL : env.locals ≠ s.heap.objs.size := Nat.ne_of_lt F.ns.lt
  have hN : ∀ p ∈ news, p.1 ≠ s.heap.objs.size := fun p hp => Nat.ne_of_lt (Heap.lt_size (N p hp).1)
  refine wpAny_pyIter_range hr hsmall ?_
  have W : Walks prog w A s.heap.objs.size [s.heap.objs.size] [s.heap.objs.size] n (fun i v => i < n ∧ ∃ t, v = .int (a₀ + i * 1) t)
      (fun i h => IsRangeIter h s.heap.objs.size (a₀ + (i : Nat) * 1) ((n : Int) - (i : Nat)) 1) := (Walks.range hh _ a₀ 1 n).bound
  refine iter_walks J W (fun i h hs => ⟨_, hs⟩) hI hL (by show IsRangeIter _ _ _ _ _; rw [hn]; simpa using Heap.get?_push_size _ rfl) (F.push _) (fun p hp => ⟨Heap.get?_push_of_some _ (N p hp).1, (N p hp).2⟩) hN hj ?_ done
  rintro i v m₁ nx io h tk hin ⟨_, u, rfl⟩ hJ hne F₁ N₁
  rw [Int.mul_one] at F₁
  exact turn i u m₁ nx _ io h tk hin hJ hne F₁ N₁
theorem len_tupI {D : Addr} {its : List Value} {k : Nat} {ns : List Int} {Q : Value → Shared → Prop} (N : News h₀ L s.heap news) (hm : (D, tupO its k) ∈ news) (hi : IntsAre its ns) (hl : ns.length ≤ 100)
    (h : Q (.int ns.length (s.toks + 1)) { s with toks := s.toks + 1 + 1 }) : wpAny (model prog w) A (call (.builtin "len") [.ref D]) Q E s := by
  have e : its.toArray.size = ns.length := by rw [List.size_toArray]; exact hi.length
  refine PyProof.Rows.len_tuple (N.isTup hm) (by rw [e]; omega) ?_
  rw [e]; exact h
theorem sub_tupI {value slice : PySem.Expr} {D : Addr} {its : List Value} {n : Nat} {ns : List Int} {k : Int} {u : Tok} {Q : Value → Shared → Prop} (N : News h₀ L s.heap news) (hm : (D, tupO its n) ∈ news) (hi : IntsAre its ns) (h0 : 0 ≤ k) (h1 : k < ns.length) (hl : ns.length ≤ 100)
    (h : ∀ t, Q (.int (ns.getD k.toNat 0) t) s)
    (hs : subscripted slice false (.ref D) (.int k u) = operate [.ref D, .int k u] (getItem (.ref D) (.int k u)) := by with_unfolding_all rfl) :
    wpAny (model prog w) A (subscriptTail value slice (.ref D) (.int k u)) Q E s := by
  obtain ⟨t, hx⟩ := hi.get k.toNat _ (ints_getD h0 h1)
  exact tail_any (N.isTup hm).typeIs slot_tuple_getitem.lookup (PyProof.Rows.getItem_tuple (N.isTup hm) (by omega) (by omega) (seqIndex_of h0 (by simpa [hi.length] using h1)) (by simpa using hx) (h t)) hs
theorem tup_reads {D D' : Addr} {its : List Value} {k k' : Nat} {ns : List Int} {b : Int} {t : Tok} (N : News h₀ L s.heap news) (m1 : (D, tupO [.ref D', .int b t] k) ∈ news) (m2 : (D', tupO its k') ∈ news) (hi : IntsAre its ns) :
    ∃ as, Reads s.heap (.ref D) (.tuple [.tuple (ns.map PyData.int), .int b]) as :=
  ⟨_, reads_tuple_at (N.get m1) rfl rfl (ReadsAll.cons (reads_tuple_at (N.get m2) rfl rfl (by simpa using readsAll_of_ints hi)) (ReadsAll.cons (Reads.int _ _) .nil))⟩
theorem tup_shaped (ns : List Int) (b : Int) : SeqAt.shaped (.tuple [.tuple (ns.map PyData.int), .int b]) = true := by
  simp [SeqAt.shaped, PyData.canLay0, PyData.canLayAll0, PyData.depth, PyData.depthAll, ke_canLayAll0, ke_depthAll]
theorem tup_eqv (ns ms : List Int) (b c : Int) : PyData.eqv (.tuple [.tuple (ns.map PyData.int), .int b]) (.tuple [.tuple (ms.map PyData.int), .int c]) = (decide (ns = ms) && decide (b = c)) := by
  simp only [PyData.eqv, PyData.eqvAll, ked_eqvAll, Bool.and_true]
  congr 1
theorem eq_norm {D D' G G' : Addr} {its its' : List Value} {k1 k2 k3 k4 : Nat} {ns ms : List Int} {b c : Int} {t u : Tok} {Q : Value → Shared → Prop} (N : News h₀ L s.heap news) (m1 : (D, tupO [.ref D', .int b t] k1) ∈ news) (m2 : (D', tupO its k2) ∈ news) (hi : IntsAre its ns)
    (m3 : (G, tupO [.ref G', .int c u] k3) ∈ news) (m4 : (G', tupO its' k4) ∈ news) (hj : IntsAre its' ms) (hu : A.units + 64 < cLine) (h : Q (.bool (decide (ns = ms) && decide (b = c))) s) :
    wpAny (model prog w) A (compareOp .Eq (.ref D) (.ref G)) Q E s := by
  obtain ⟨as, r1⟩ := tup_reads N m1 m2 hi
  obtain ⟨bs, r2⟩ := tup_reads N m3 m4 hj
  exact eq_dataH r1 r2 (tup_shaped _ _) (tup_shaped _ _) hu (by rw [tup_eqv]; exact h)
noncomputable def AccJ (m₀ : Str → Option Value) (led : List (Addr × Obj)) (x y : Str) (v : Int) (m : Str → Option Value) (nx : List (Addr × Obj)) : Prop :=
  nx = led ∧ (∃ t, m y = some (.int v t)) ∧ ∀ z, z ≠ x → z ≠ y → m z = m₀ z
theorem acc_map {m₀ m₁ : Str → Option Value} {x y : Str} {v : Int} {t : Tok} {u : Option Value} (h1 : m₁ y = some (.int v t)) (hm : ∀ z, z ≠ x → z ≠ y → m₁ z = m₀ z) :
    (fun z => if z = x then u else m₁ z) = fun z => if z = x then u else if z = y then some (.int v t) else m₀ z := by
  funext z
  by_cases e0 : z = x
  · rw [if_pos e0, if_pos e0]
  rw [if_neg e0, if_neg e0]
  by_cases e1 : z = y
  · rw [if_pos e1, e1, h1]
  rw [if_neg e1]
  exact hm z e0 e1
structure GMark (y : Str) (g : Nat → Int) : Prop where
theorem rng_acc {r : Addr} {a₀ b₀ : Int} {t₀ u₀ v₀ ta : Tok} {n : Nat} {m₀ : Str → Option Value} {news : List (Addr × Obj)} {y : Str} {g : Nat → Int} (_gm : GMark y g)
    (hh : A.handled = none) (hr : IsRange s.heap r a₀ b₀ 1 t₀ u₀ v₀) (hsmall : Builtin.Range.small a₀ b₀ 1 = true) (hn : Builtin.Range.rangeSize a₀ b₀ 1 = (n : Int)) (F : Fr h₀ env.locals s.heap m₀) (N : News h₀ env.locals s.heap news) (hy : m₀ y = some (.int (g 0) ta))
    (turn : ∀ (i : Nat) (u t : Tok) (I : Addr) (io : Obj) (h : Heap) (tk : Nat), i < n → (∀ p ∈ news, p.1 ≠ I) → Fr h₀ env.locals h (fun z => if z = x then some (.int (a₀ + (i : Int)) u) else if z = y then some (.int (g i) t) else m₀ z) → News h₀ env.locals h ((I, io) :: news) →
      wpAny (model prog w) A (execs body env) (TxPost h₀ env.locals I io (AccJ m₀ news x y (g (i + 1))) { s with heap := h, toks := tk } Q) E { s with heap := h, toks := tk })
    (done : ∀ (v : Option Value) t h tk, Fr h₀ env.locals h (fun z => if z = x then v else if z = y then some (.int (g n) t) else m₀ z) → News h₀ env.locals h news → Q .next { s with heap := h, toks := tk }) :
    wpAny (model prog w) A (pyIter (.ref r)) (fun it s₂ => LoopAtV prog w A h₀ env x body Q E it s₂) E s := by
  refine iter_rng (fun i => AccJ m₀ news x y (g i)) hh hr hsmall hn F N ⟨rfl, ⟨_, hy⟩, fun _ _ _ => rfl⟩ ?_ ?_
  · rintro i u m₁ nx I io h tk hi ⟨rfl, ⟨t, h1⟩, hm⟩ hne F₁ N₁
    rw [acc_map h1 hm] at F₁
    exact turn i u t I io h tk hi hne F₁ N₁
  · rintro m₁ nx h tk ⟨rfl, ⟨t, h1⟩, hm⟩ F₁ N₁
    have e : m₁ = fun z => if z = x then m₁ x else m₁ z := by
      funext z
      by_cases e0 : z = x
      · rw [if_pos e0, e0]
      · rw [if_neg e0]
    rw [e, acc_map h1 hm] at F₁
    exact done _ t h tk F₁ N₁
theorem acc_end {L I : Addr} {io : Obj} {led : List (Addr × Obj)} {x y : Str} {v : Int} {t : Tok} {m₀ m' : Str → Option Value} {h' : Heap} {tk' : Nat} {s₁ : Shared}
    (F : Fr h₀ L h' m') (N : News h₀ L h' ((I, io) :: led)) (hne : ∀ p ∈ led, p.1 ≠ I) (h1 : m' y = some (.int v t)) (hm : ∀ z, z ≠ x → z ≠ y → m' z = m₀ z) :
    TxEnd h₀ L I io (AccJ m₀ led x y v) s₁ { s₁ with heap := h', toks := tk' } :=
  ⟨h', tk', m', _, rfl, F, N, hne, rfl, ⟨t, h1⟩, hm⟩
end
theorem fdiv_bits {a b : Int} (ha : 0 ≤ a) (ha2 : a < 2 ^ 62) (hb : 1 ≤ b) : Builtin.Int.intBits (a.fdiv b) ≤ 64 := by
  have h1 : a.fdiv b = a / b := Int.fdiv_eq_ediv_of_nonneg _ (by omega)
  have h2 : 0 ≤ a / b := Int.ediv_nonneg ha (by omega)
  have h3 : a / b ≤ a := Int.ediv_le_self _ ha
  exact intBits_le_64 (by rw [h1]; omega) (by rw [h1]; omega)
/-- what the loop of indent_level adds up -/
noncomputable def indSum (cnt : List Int) (size : Int) : Nat → Int
  | 0 => 0
  | k + 1 => indSum cnt size k + Int.fdiv (size + (k : Int)) size * cnt.getD (size + (k : Int)).toNat 0
noncomputable def indVal (cnt : List Int) (b nt size : Int) : Int := b + size * (indSum cnt size ((cnt.length : Int) - size).toNat + nt)
theorem ind_range {size len : Int} : Builtin.Range.rangeSize size len 1 = (((len - size).toNat : Nat) : Int) := by
  unfold Builtin.Range.rangeSize
  rw [if_pos (by decide)]
  split
  · rw [Int.ediv_one]; omega
  · omega
end Mine
end
section
open PySem PySem.W PyProof.Rows PySem.Calls
set_option maxRecDepth 100000
set_option maxHeartbeats 16000000
namespace Mine
example (P : Params) : PySem.Challenge.rw_xg0060_01 = PySem.Challenge.rw_xg0060_01 ∧ hd.heap_39 P = hd.heap_39 P := by
  w_top off
  k_fill
  exact ⟨rfl, rfl⟩
example : True := by
  k_with_none
  (k_with "k_enter" => cell_enter)
  (k_with "k_all" => first | exact ne_allLt (by assumption) | exact fun p hp => Nat.ne_of_lt ((by assumption : ∀ p ∈ _, p.1 < _) p hp))
  (k_with "TxPost" => (dsimp only [TxPost]))
  (k_with "call builtin:len" => (k_here; k_dflt (refine' len_tupI ?k1Zq ?k2Zq ?k3Zq ?k4Zq ?_; (case k1Zq => k_asm); (case k2Zq => k_mem); (case k3Zq => assumption); (case k4Zq => assumption); k_whole)))
  (k_with "subscriptTail" => (k_here; (with_reducible show wpAny _ _ (subscriptTail _ _ (Value.ref _) (Value.int _ _)) _ _ _); k_dflt (refine' sub_tupI ?k1Zq ?k2Zq ?k3Zq ?k4Zq ?k5Zq ?k6Zq ?_ ?k7Zq; (case k1Zq => k_asm); (case k2Zq => k_mem); (case k3Zq => assumption); (case k4Zq => omega); (case k5Zq => omega); (case k6Zq => assumption); (case k7Zq => with_unfolding_all rfl); k_whole); intro _))
  trivial
section
variable {w : World} {mean : ExcName → Option Value} {mg mb : Str → Option Value} {loose : List Str} {dp un : Nat} {gd : Option (List Code)} {cn : Str} {cs : Scope} {a : Addr} {ccd : Value} {cl : List (Str × Addr)} {outer : List Env} {A₀ : Around} {base h₀ : Heap} {L : Addr} {m : Str → Option Value} {s : Shared} {Q E : Value → Shared → Prop} {news : List (Addr × Obj)}
theorem longest_cl {x d D1 D2 : Addr} {t1 t2 t3 t4 t5 t6 t7 : Tok} {rv sv nv : Value} {its : List Value} {n1 n2 : Nat} {cnt : List Int} {b nt : Int}
    (B : Below A₀ base outer h₀) (F : Fr h₀ L s.heap m) (X : (hd.heap_39 w.params).In h₀)
    (N : News h₀ L s.heap ((x, instObj 134 d) :: (d, wsDict w.params t1 t2 t3 t4 t5 rv nv (.int nt t6) sv D1) :: (D1, tupO [.ref D2, .int b t7] n1) :: (D2, tupO its n2) :: news)) (T : Top hd.view_39 loose mean mg mb h₀) (hk : cs.kind = .function)
    (hdp : dp + 3 < recursionLimit) (hI : IntsAre its cnt) (hl : cnt.length ≤ 100)
    (hret : ∀ (t : Tok) (h' : Heap) (tk' : Nat), Fr h₀ L h' m → News h₀ L h' ((x, instObj 134 d) :: (d, wsDict w.params t1 t2 t3 t4 t5 rv nv (.int nt t6) sv D1) :: (D1, tupO [.ref D2, .int b t7] n1) :: (D2, tupO its n2) :: news) → Q (.int (if b > (cnt.length : Int) - 1 then b else (cnt.length : Int) - 1) t) { s with heap := h', toks := tk' }) :
    wpAny (model PySem.Challenge.rw_xg0060_01.row.prog w) (ktrTop dp un gd cn cs L a ccd cl outer) (call (.ref 96) [.ref x]) Q E s := by
  refine wpAny_call ?_
  k_dflt cell_enter
  k_steps
  all_goals exact hret _ _ _ (by assumption) (by assumption)
example : True := by
  (k_with "pyIter ref" => ((with_reducible show wpAny _ _ (pyIter (Value.ref _)) (fun it s₂ => LoopAtV _ _ _ _ _ _ _ _ _ it s₂) _ _); k_here; (rename Fr _ _ _ _ => wF'); (rename News _ _ _ _ => wN'); (rename IsRange _ _ _ _ _ _ _ _ => wR'); (refine' rng_acc ?gmZq ?hhZq wR' ?hsZq ind_range wF' wN' ?hyZq ?_ ?_; (case gmZq => assumption); (case hhZq => exact rfl); (case hsZq => exact small_one (by omega) (by omega) (by omega) (by omega)); (case hyZq => exact rfl)); (all_goals (clear wF' wN')); (all_goals (first | (intro i' u' t' I' io' h' tk' hi' hne' F' N'; k_fold) | (intro v' t' h' tk' F' N')))))
  (k_with "binaryOp Mult int int" => (k_here; (refine mul_int ?_ (IntMulOk.of_left (fdiv_bits (by omega) (by omega) (by omega))))))
  trivial
theorem indent_cl {x d D1 D2 : Addr} {t1 t2 t3 t4 t5 t6 t7 u : Tok} {rv sv nv : Value} {its : List Value} {n1 n2 : Nat} {cnt : List Int} {b nt size : Int}
    (B : Below A₀ base outer h₀) (F : Fr h₀ L s.heap m) (X : (hd.heap_39 w.params).In h₀)
    (N : News h₀ L s.heap ((x, instObj 134 d) :: (d, wsDict w.params t1 t2 t3 t4 t5 rv nv (.int nt t6) sv D1) :: (D1, tupO [.ref D2, .int b t7] n1) :: (D2, tupO its n2) :: news)) (T : Top hd.view_39 loose mean mg mb h₀) (hk : cs.kind = .function)
    (hdp : dp + 3 < recursionLimit) (hI : IntsAre its cnt) (hl : cnt.length ≤ 100) (h1 : 1 ≤ size) (h8 : size ≤ 8)
    (hret : ∀ (t : Tok) (h' : Heap) (tk' : Nat), Fr h₀ L h' m → News h₀ L h' ((x, instObj 134 d) :: (d, wsDict w.params t1 t2 t3 t4 t5 rv nv (.int nt t6) sv D1) :: (D1, tupO [.ref D2, .int b t7] n1) :: (D2, tupO its n2) :: news) → Q (.int (indVal cnt b nt size) t) { s with heap := h', toks := tk' }) :
    wpAny (model PySem.Challenge.rw_xg0060_01.row.prog w) (ktrTop dp un gd cn cs L a ccd cl outer) (call (.ref 103) [.ref x, .int size u]) Q E s := by
  have gM : GMark (Str.ofString "il") (indSum cnt size) := ⟨⟩
  refine wpAny_call ?_
  k_dflt cell_enter
  k_steps
  all_goals first
    | exact hret _ _ _ (by assumption) (by assumption)
    | (refine' acc_end (by assumption) (by assumption) (by assumption) rfl ?_; intro z z1 z2; simp only [if_neg z1, if_neg z2])
end
end Mine
end
section
open PySem PySem.W PyProof.Rows PySem.Calls
set_option maxRecDepth 100000
set_option maxHeartbeats 16000000
namespace Mine
example (P : Params) : PySem.Challenge.rw_xg0060_01 = PySem.Challenge.rw_xg0060_01 ∧ hd.heap_39 P = hd.heap_39 P := by
  w_top off
  k_fill
  exact ⟨rfl, rfl⟩
example : True := by
  k_with_none
  (k_with "k_enter" => cell_enter)
  (k_with "k_all" => first | exact ne_allLt (by assumption) | exact fun p hp => Nat.ne_of_lt ((by assumption : ∀ p ∈ _, p.1 < _) p hp))
  (k_with "TxPost" => (dsimp only [TxPost]))
  (k_with "call builtin:len" => (k_here; k_dflt (refine' len_tupI ?k1Zq ?k2Zq ?k3Zq ?k4Zq ?_; (case k1Zq => k_asm); (case k2Zq => k_mem); (case k3Zq => assumption); (case k4Zq => assumption); k_whole)))
  (k_with "subscriptTail" => (k_here; (with_reducible show wpAny _ _ (subscriptTail _ _ (Value.ref _) (Value.int _ _)) _ _ _); k_dflt (refine' sub_tupI ?k1Zq ?k2Zq ?k3Zq ?k4Zq ?k5Zq ?k6Zq ?_ ?k7Zq; (case k1Zq => k_asm); (case k2Zq => k_mem); (case k3Zq => assumption); (case k4Zq => omega); (case k5Zq => omega); (case k6Zq => assumption); (case k7Zq => with_unfolding_all rfl); k_whole); intro _))
  trivial
section
variable {w : World} {mean : ExcName → Option Value} {mg mb : Str → Option Value} {loose : List Str} {dp un : Nat} {gd : Option (List Code)} {cn : Str} {cs : Scope} {a : Addr} {ccd : Value} {cl : List (Str × Addr)} {outer : List Env} {A₀ : Around} {base h₀ : Heap} {L : Addr} {m : Str → Option Value} {s : Shared} {Q E : Value → Shared → Prop} {news : List (Addr × Obj)}
example : True := by
  (k_with "compareOp Eq ref ref" => (k_here; (with_reducible show wpAny _ _ (compareOp CmpOp.Eq (Value.ref _) (Value.ref _)) _ _ _); k_dflt (refine' eq_norm ?k1Zq ?k2Zq ?k3Zq ?k4Zq ?k5Zq ?k6Zq ?k7Zq ?k8Zq ?_; (case k1Zq => k_asm); (case k2Zq => k_mem); (case k3Zq => k_mem); (case k4Zq => assumption); (case k5Zq => k_mem); (case k6Zq => k_mem); (case k7Zq => assumption); (case k8Zq => ktr_units); k_whole)))
  trivial
theorem equal_cl {x d D1 D2 y e E1 E2 : Addr} {t1 t2 t3 t4 t5 t6 u1 u2 u3 u4 u5 u6 : Tok} {rv sv nv ntv rv' sv' nv' ntv' : Value} {its its' : List Value} {n1 n2 n3 n4 : Nat} {cnt cnt' : List Int} {b b' : Int}
    (B : Below A₀ base outer h₀) (F : Fr h₀ L s.heap m) (X : (hd.heap_39 w.params).In h₀)
    (N : News h₀ L s.heap ((x, instObj 134 d) :: (d, wsDict w.params t1 t2 t3 t4 t5 rv nv ntv sv D1) :: (D1, tupO [.ref D2, .int b t6] n1) :: (D2, tupO its n2) ::
      (y, instObj 134 e) :: (e, wsDict w.params u1 u2 u3 u4 u5 rv' nv' ntv' sv' E1) :: (E1, tupO [.ref E2, .int b' u6] n3) :: (E2, tupO its' n4) :: news)) (T : Top hd.view_39 loose mean mg mb h₀) (hk : cs.kind = .function)
    (hdp : dp + 3 < recursionLimit) (hun : un + 100 < cLine) (hI : IntsAre its cnt) (hl : cnt.length ≤ 100) (hI' : IntsAre its' cnt') (hl' : cnt'.length ≤ 100)
    (hret : ∀ (h' : Heap) (tk' : Nat), Fr h₀ L h' m → News h₀ L h' ((x, instObj 134 d) :: (d, wsDict w.params t1 t2 t3 t4 t5 rv nv ntv sv D1) :: (D1, tupO [.ref D2, .int b t6] n1) :: (D2, tupO its n2) ::
      (y, instObj 134 e) :: (e, wsDict w.params u1 u2 u3 u4 u5 rv' nv' ntv' sv' E1) :: (E1, tupO [.ref E2, .int b' u6] n3) :: (E2, tupO its' n4) :: news) → Q (.bool (decide (cnt = cnt') && decide (b = b'))) { s with heap := h', toks := tk' }) :
    wpAny (model PySem.Challenge.rw_xg0060_01.row.prog w) (ktrTop dp un gd cn cs L a ccd cl outer) (call (.ref 110) [.ref x, .ref y]) Q E s := by
  refine wpAny_call ?_
  k_dflt cell_enter
  k_steps
  all_goals exact hret _ _ (by assumption) (by assumption)
end
end Mine
end
section
open PySem PySem.W PyProof.Rows PySem.Calls
set_option maxRecDepth 100000
set_option maxHeartbeats 16000000
namespace Mine
noncomputable def KeptBut (as : List Addr) (h g : Heap) : Prop := ∀ b o, h.get? b = some o → b ∉ as → g.get? b = some o
noncomputable def FromBut (h g : Heap) : Prop := ∀ b o, g.get? b = some o → h.get? b = some o
section
variable {prog : Program} {w : World} {A A₀ : Around} {E : Value → Shared → Prop} {s : Shared} {K : Frag} {L : Addr} {h₀ base : Heap} {m mg mb : Str → Option Value} {news : List (Addr × Obj)} {p : Program} {loose : List Str} {mean : ExcName → Option Value}
theorem enter_at {env : Env} {outer : List Env} {R : Result → Shared → Prop} {name qual : Str} {params : Arguments} {body : List Stmt} {scope : Scope} {dV kV doc pm cdv ct oc : Value} {an od : Option Addr} {osl : Array (Option Value)} {f : Addr} {args : Args} {binds : List (Str × Value)}
    (B : Below A₀ base outer h₀) (F : Fr h₀ L s.heap m) (X₀ : K.In h₀) (N : News h₀ L s.heap news) (T : Top p loose mean mg mb h₀) (hA : A.frames = some (env :: outer)) (hf : env.frame = some L) (hke : env.scope.kind = .function)
    (ho : K.lookup f = some ⟨oc, od, .func (fnOf name qual params body scope dV kV doc pm an cdv ct), osl⟩) (hcd : codeIn K cdv qual = true) (hroom : A.depth < recursionLimit)
    (hbind : BindsTo s (fnOf name qual params body scope dV kV doc pm an cdv ct) args binds) (hloc : ∀ y ∈ binds, scope.names.lookup y.1 = some .local)
    (h : ∀ g L' h₁, KeptBut (news.map (·.1)) s.heap g → Fr h₀ L g m → Fr g L' h₁ (fun y => binds.reverse.lookup y) → News g L' h₁ news → Below A base (env :: outer) g → K.In g → Top p loose mean mg mb g →
      wpAny (model prog w) (A.deeper (envOf qual scope L' f cdv)) (execs body (envOf qual scope L' f cdv))
        (fun fl s' => LeaveK h₀ L m g R (match fl with | .ret v => v | _ => .none) s')
        (fun e s' => wpAny (model prog w) (A.deeper (envOf qual scope L' f cdv)) (leaving (envOf qual scope L' f cdv) e) (fun _ s'' => R (.error e) s'') (fun e' s'' => R (.error e') s'') s')
        { s with heap := h₁, toks := s.toks + binds.length })
    (hco : scope.isCoroutine = false) (hgen : scope.isGenerator = false) (hk : scope.kind = .function)
    (hcell : ∀ x ∈ scope.names, x.2 ≠ .cell) : codeAny (model prog w) A (.call (.ref f) args) R s := by
  obtain ⟨FG, BG, st, lv⟩ := groundX (R := R) B F N hA hf hke
  refine codeAny_call_def (fd := fnX name qual params body scope [] dV kV doc pm an cdv ct) (body := body) (binds := binds) hroom ((X₀.keeps F.keep) _ _ ho) rfl (T.nolimit.keeps F.keep) (codeRec_of (X₀.keeps F.keep) hcd) rfl hbind hcell hloc (fun h₁ hns hk₁ => ?_) hco hgen hk
  exact wpAny_mono (h _ s.heap.objs.size h₁ (fun b o e hb => hideAll_get _ e hb) FG ⟨hns, fun b o e => hk₁ b o (of_hideAll _ e), Nat.le_of_eq (hideAll_size _ _)⟩
    (fun q hq => ⟨hk₁ _ _ (N q hq).1, Nat.ne_of_lt (Heap.lt_size (N q hq).1), hideAll_none _ (List.mem_map_of_mem hq)⟩) BG (X₀.keeps st) (T.keeps st)) (fun fl s' hl => lv _ _ hl) fun _ _ y => y
noncomputable def AllNe (d : Nat) : List (Addr × Obj) → Prop
  | [] => True
  | p :: r => @Ne Nat p.1 d ∧ AllNe d r
theorem allNe_of {d : Addr} : ∀ {l : List (Addr × Obj)}, (∀ p ∈ l, p.1 ≠ d) → AllNe d l
  | [], _ => trivial
  | _ :: _, h => ⟨h _ (.head _), allNe_of fun q hq => h q (.tail _ hq)⟩
theorem ne_allNe {D : Nat} {l : List (Addr × Obj)} (h : AllNe D l) : ∀ p ∈ l, p.1 ≠ D := by
  induction l with
  | nil => intro p hp; cases hp
  | cons q r ih =>
    intro p hp
    rcases List.mem_cons.mp hp with rfl | hp
    · exact h.1
    · exact ih h.2 p hp
/-- behind the call the caller's other objects stand as they stood -/
theorem kept_news {led out : List (Addr × Obj)} {g h' : Heap} {L' : Addr} {m' : Str → Option Value} (hK : KeptBut (led.map (·.1)) s.heap g) (F' : Fr g L' h' m') (N : News h₀ L s.heap (led ++ news)) (kN : News h₀ L h' out) (hled : ∀ q ∈ led, q ∈ out) :
    News h₀ L h' (out ++ news) := fun q hq => by
  rcases List.mem_append.mp hq with hq | hq
  · exact kN q hq
  · have hN := N q (List.mem_append_right _ hq)
    by_cases hm : q.1 ∈ led.map (·.1)
    · obtain ⟨r, hr, e⟩ := List.mem_map.mp hm
      have h1 := (N r (List.mem_append_left _ hr)).1
      rw [e, hN.1] at h1
      have h2 : q = r := Prod.ext e.symm (Option.some.inj h1)
      rw [h2]; exact kN r (hled r hr)
    · exact ⟨F'.keep _ _ (hK _ _ hN.1 hm), hN.2⟩
theorem kept_ne {led out : List (Addr × Obj)} {g h' : Heap} {L' D : Addr} {o : Obj} (hK : KeptBut (led.map (·.1)) s.heap g) (N' : News g L' h' out) (hD : (D, o) ∈ out) (hne : ∀ q ∈ led, q.1 ≠ D) (N : News h₀ L s.heap (led ++ news)) : ∀ q ∈ led ++ news, q.1 ≠ D := fun q hq e => by
  have hN := N q hq
  by_cases hm : q.1 ∈ led.map (·.1)
  · obtain ⟨r, hr, e'⟩ := List.mem_map.mp hm
    exact hne r hr (e'.trans e)
  · have h1 := hK _ _ hN.1 hm
    rw [e, (N' _ hD).2.2] at h1
    cases h1
theorem kept_one {led out : List (Addr × Obj)} {g h' : Heap} {L' D : Addr} {o : Obj} {m' : Str → Option Value} (hK : KeptBut (led.map (·.1)) s.heap g) (F' : Fr g L' h' m') (N' : News g L' h' out) (N : News h₀ L s.heap (led ++ news)) (kN : News h₀ L h' out)
    (hled : ∀ q ∈ led, q ∈ out) (hD : (D, o) ∈ out) (hne : ∀ q ∈ led, q.1 ≠ D) : News h₀ L h' ((D, o) :: (led ++ news)) ∧ ∀ q ∈ led ++ news, q.1 ≠ D := by
  refine ⟨fun q hq => ?_, kept_ne hK N' hD hne N⟩
  have h := kept_news hK F' N kN hled
  rcases List.mem_cons.mp hq with rfl | hq
  · exact h _ (List.mem_append_left _ hD)
  · rcases List.mem_append.mp hq with hq | hq
    · exact h q (List.mem_append_left _ (hled q hq))
    · exact h q (List.mem_append_right _ hq)
end
end Mine
end
section
open PySem PySem.W PyProof.Rows PySem.Calls
set_option maxRecDepth 100000
set_option maxHeartbeats 16000000
namespace Mine
example (P : Params) : PySem.Challenge.rw_xg0060_01 = PySem.Challenge.rw_xg0060_01 ∧ hd.heap_39 P = hd.heap_39 P := by
  w_top off
  k_fill
  exact ⟨rfl, rfl⟩
example : True := by
  k_with_none
  (k_with "k_enter" => (refine' enter_at ?k1Zq ?k2Zq ?k3Zq ?k4Zq ?k5Zq ?kAZq ?kFZq ?kKZq ?k6Zq ?k7Zq ?k8Zq ?k9Zq ?kBZq ?_ ?c2Zq ?c3Zq ?c4Zq ?c5Zq; (case kAZq => exact rfl); (case kFZq => exact rfl); (case kKZq => assumption); (case k1Zq => k_asm); (case k2Zq => k_asm); (case k3Zq => k_asm); (case k4Zq => k_asm); (case k5Zq => k_asm); (case k6Zq => k_is); (case k7Zq => k_is); (case k8Zq => ktr_room); (case k9Zq => exact BindsTo.of_eq rfl); (case c5Zq => decide); (case kBZq => exact locs rfl); (case c2Zq => exact rfl); (case c3Zq => exact rfl); (case c4Zq => exact rfl); k_whole; intro g' L' h' hKp' FG' F' N' B' X' T'; (try dsimp only); (try k_lift B'); (try k_fold)))
  (k_with "k_all" => first | exact ne_allLt (by assumption) | exact fun p hp => Nat.ne_of_lt ((by assumption : ∀ p ∈ _, p.1 < _) p hp))
  trivial
section
variable {w : World} {mean : ExcName → Option Value} {mg mb : Str → Option Value} {loose : List Str} {dp un : Nat} {gd : Option (List Code)} {cn : Str} {cs : Scope} {a : Addr} {ccd : Value} {cl : List (Str × Addr)} {outer : List Env} {A₀ : Around} {base h₀ : Heap} {L : Addr} {m : Str → Option Value} {s : Shared} {Q E : Value → Shared → Prop} {news : List (Addr × Obj)}
theorem shine_cl {clock : Int} {u : Tok}
    (B : Below A₀ base outer h₀) (F : Fr h₀ L s.heap m) (X : (hd.heap_39 w.params).In h₀)
    (N : News h₀ L s.heap news) (T : Top hd.view_39 loose mean mg mb h₀) (hk : cs.kind = .function)
    (hdp : dp + 3 < recursionLimit) (hun : un + 60 < cLine)
    (hret : ∀ (D : Addr) (t1 t2 t3 : Tok) (n : Nat) (h' : Heap) (tk' : Nat), Fr h₀ L h' m → News h₀ L h' ((D, listOf [Value.int (shineAt clock 0) t1, .int (shineAt clock 16) t2, .int (shineAt clock 32) t3].toArray n) :: news) → (∀ p ∈ news, p.1 ≠ D) → Q (.ref D) { s with heap := h', toks := tk' }) :
    wpAny (model PySem.Challenge.rw_xg0060_01.row.prog w) (ktrTop dp un gd cn cs L a ccd cl outer) (call (.ref 152) [.int clock u]) Q E s := by
  have NL : News h₀ L s.heap [] := News.nil
  unfold shineAt at hret
  refine wpAny_call ?_
  k_dflt k_enter
  k_steps
  all_goals (
    (rename Fr _ _ _ _ => zF)
    (rename News _ _ _ _ => zN)
    refine' hret _ _ _ _ _ _ _ zF (kept_one (led := []) (by assumption) (by assumption) (by assumption) N zN (fun _ h => by cases h) ?m (fun _ h => by cases h)).1 (kept_one (led := []) (by assumption) (by assumption) (by assumption) N zN (fun _ h => by cases h) ?m (fun _ h => by cases h)).2
    case m => k_mem)
end
end Mine
end
section
open PySem PySem.W PyProof.Rows PySem.Calls
set_option maxRecDepth 100000
set_option maxHeartbeats 16000000
namespace Mine
@[irreducible] noncomputable def roundUp (a size : Int) : Int := a + Int.fmod (-a) size
theorem roundUp_ge {a size : Int} (h : 1 ≤ size) : a ≤ roundUp a size := by
  unfold roundUp
  rw [Int.fmod_eq_emod_of_nonneg _ (by omega)]
  have := Int.emod_nonneg (-a) (b := size) (by omega)
  omega
theorem roundUp_lt {a size : Int} (h : 1 ≤ size) : roundUp a size < a + size := by
  unfold roundUp
  rw [Int.fmod_eq_emod_of_nonneg _ (by omega)]
  have := Int.emod_lt_of_pos (-a) (b := size) (by omega)
  omega
theorem roundUp_mod {a size : Int} (h : 1 ≤ size) : Int.fmod (roundUp a size) size = 0 := by
  unfold roundUp
  rw [Int.fmod_eq_emod_of_nonneg _ (by omega), Int.fmod_eq_emod_of_nonneg _ (by omega)]
  rw [Int.add_emod, Int.emod_emod_of_dvd _ (Int.dvd_refl _), ← Int.add_emod]
  have e : a + -a = 0 := by omega
  rw [e]; exact Int.zero_emod _
theorem roundUp_first {a size v : Int} (h : 1 ≤ size) (h1 : a ≤ v) (h2 : v < roundUp a size) : Int.fmod v size ≠ 0 := by
  intro hv
  rw [Int.fmod_eq_emod_of_nonneg _ (by omega)] at hv
  have hlt := roundUp_lt (a := a) h
  unfold roundUp at h2 hlt
  rw [Int.fmod_eq_emod_of_nonneg _ (by omega)] at h2 hlt
  have e1 : (-a) % size = (v - a) % size := by
    have : v - a = v + -a := by omega
    rw [this, Int.add_emod, hv, Int.zero_add, Int.emod_emod_of_dvd _ (Int.dvd_refl _)]
  have hb := Int.emod_lt_of_pos (-a) (b := size) (by omega)
  have e2 : (v - a) % size = v - a := Int.emod_eq_of_lt (by omega) (by omega)
  omega
structure SMark (size : Int) : Prop where
structure NzMod (v size : Int) : Prop where
  out : Int.fmod v size ≠ 0
structure ZMod (v size : Int) : Prop where
  out : Int.fmod v size = 0
structure RUp (v a size : Int) : Prop where
  out : v = roundUp a size
theorem ite_nz {x y : Int} {P Q : Prop} (h : x ≠ y) (p : P) : if (x != y) = true then P else Q := by
  rw [if_pos (by simpa using h)]; exact p
theorem ite_z {x y : Int} {P Q : Prop} (h : x = y) (q : Q) : if (x != y) = true then P else Q := by
  rw [if_neg (by simpa using h)]; exact q
section
variable {prog : Program} {w : World} {A : Around} {E : Value → Shared → Prop} {Q : Flow → Shared → Prop} {s : Shared} {env : Env} {h₀ : Heap} {L : Addr}
noncomputable def WhEnd (h₀ : Heap) (L : Addr) (s : Shared) (m₀ : Str → Option Value) (news : List (Addr × Obj)) (y : Str) (v : Int) (s₃ : Shared) : Prop :=
  ∃ h' tk t m', s₃ = { s with heap := h', toks := tk } ∧ Fr h₀ L h' m' ∧ News h₀ L h' news ∧ m' y = some (.int (v + 1) t) ∧ ∀ z, z ≠ y → m' z = m₀ z
noncomputable def WhPost (h₀ : Heap) (L : Addr) (s : Shared) (m₀ : Str → Option Value) (news : List (Addr × Obj)) (y : Str) (v : Int) (Q : Flow → Shared → Prop) (f : Flow) (s₃ : Shared) : Prop :=
  match f with
  | .brk => Q .next s₃
  | .ret u => Q (.ret u) s₃
  | _ => WhEnd h₀ L s m₀ news y v s₃
theorem wh_end {m₀ m' : Str → Option Value} {news : List (Addr × Obj)} {y : Str} {v : Int} {h' : Heap} {tk : Nat} {t : Tok} (F : Fr h₀ L h' m') (N : News h₀ L h' news) (h1 : m' y = some (.int (v + 1) t)) (hm : ∀ z, z ≠ y → m' z = m₀ z) :
    WhEnd h₀ L s m₀ news y v { s with heap := h', toks := tk } := ⟨h', tk, t, m', rfl, F, N, h1, hm⟩
theorem one_map {m₀ m₁ : Str → Option Value} {y : Str} {v : Int} {t : Tok} (h1 : m₁ y = some (.int v t)) (hm : ∀ z, z ≠ y → m₁ z = m₀ z) : m₁ = fun z => if z = y then some (.int v t) else m₀ z := by
  funext z
  by_cases e : z = y
  · rw [if_pos e, e, h1]
  · rw [if_neg e]; exact hm z e
theorem wh_mod {test : Expr} {body : List Stmt} {pos : Pos} {m₀ : Str → Option Value} {news : List (Addr × Obj)} {y : Str} {a size : Int} {t₀ : Tok} (_sm : SMark size) (hs : 1 ≤ size) (F : Fr h₀ L s.heap m₀) (N : News h₀ L s.heap news) (hy : m₀ y = some (.int a t₀))
    (turn : ∀ v t h tk, NzMod v size → Fr h₀ L h (fun z => if z = y then some (.int v t) else m₀ z) → News h₀ L h news →
      wpAny (model prog w) A (isTrue test env (eval test env)) (fun b s₂ =>
        if b = true then wpAny (model prog w) A (execs body env) (WhPost h₀ L s m₀ news y v Q) E s₂ else Q .next s₂) E { s with heap := h, toks := tk })
    (last : ∀ v t h tk, RUp v a size → ZMod v size → Fr h₀ L h (fun z => if z = y then some (.int v t) else m₀ z) → News h₀ L h news →
      wpAny (model prog w) A (isTrue test env (eval test env)) (fun b s₂ =>
        if b = true then wpAny (model prog w) A (execs body env) (fun _ _ => False) E s₂ else Q .next s₂) E { s with heap := h, toks := tk })
    (hE : PassesOwn (model prog w) A env E := by passes_own) :
    wpAny (model prog w) A (exec (.While test body [] pos) env) Q E s := by
  refine While_inv2 (n₀ := (roundUp a size - a).toNat) (fun n m nx => nx = news ∧ ∃ v t, a ≤ v ∧ v ≤ roundUp a size ∧ n = (roundUp a size - v).toNat ∧ m y = some (.int v t) ∧ ∀ z, z ≠ y → m z = m₀ z) F N ⟨rfl, a, t₀, Int.le_refl _, roundUp_ge hs, rfl, hy, fun _ _ => rfl⟩ ?_ hE
  rintro n m₁ nx h tk F₁ N₁ ⟨rfl, v, t, h1, h2, rfl, hv, hm⟩
  rw [one_map hv hm] at F₁
  by_cases hlt : v < roundUp a size
  · refine wpAny_mono (turn v t h tk ⟨roundUp_first hs h1 hlt⟩ F₁ N₁) (fun b s₂ q => ?_) fun _ _ e => e
    cases b with
    | false => exact q
    | true =>
      simp only [if_true] at q ⊢
      refine wpAny_mono q (fun f s₃ q' => ?_) fun _ _ e => e
      have fin : WhEnd h₀ L s m₀ nx y v s₃ → ∃ h' tk m₂ news₂ n', s₃ = { s with heap := h', toks := tk } ∧ Fr h₀ L h' m₂ ∧ News h₀ L h' news₂ ∧ n' < (roundUp a size - v).toNat ∧ (news₂ = nx ∧ ∃ v t, a ≤ v ∧ v ≤ roundUp a size ∧ n' = (roundUp a size - v).toNat ∧ m₂ y = some (.int v t) ∧ ∀ z, z ≠ y → m₂ z = m₀ z) := by
        rintro ⟨h', tk', t', m', rfl, F', N', g1, gm⟩
        exact ⟨h', tk', m', nx, _, rfl, F', N', by omega, rfl, v + 1, t', by omega, by omega, rfl, g1, gm⟩
      cases f with
      | next => exact fin q'
      | cont => exact fin q'
      | brk => exact q'
      | ret u => exact q'
  · have e : v = roundUp a size := by omega
    refine wpAny_mono (last v t h tk ⟨e⟩ ⟨e ▸ roundUp_mod hs⟩ F₁ N₁) (fun b s₂ q => ?_) fun _ _ e => e
    cases b with
    | false => exact q
    | true =>
      simp only [if_true] at q ⊢
      exact wpAny_mono q (fun f s₃ q' => q'.elim) fun _ _ e => e
end
end Mine
end
section
open PySem PySem.W PyProof.Rows PySem.Calls
set_option maxRecDepth 100000
set_option maxHeartbeats 16000000
namespace Mine
noncomputable def rowD (x : Int) : PyData := .tuple [.int (x.fdiv 48), .int (x.fmod 48), .list [.int (shineAt (x.fmod 48) 0), .int (shineAt (x.fmod 48) 16), .int (shineAt (x.fmod 48) 32)]]
noncomputable def rowsD (xs : List Int) : PyData := .list (xs.map rowD)
noncomputable def RowsAt (h : Heap) (D : Addr) (xs : List Int) : Prop := ∃ as, Reads h (.ref D) (rowsD xs) as
noncomputable def zstep (way z c : Int) : Int := (z + 2 * way * c + 24).fmod 48 - 24
noncomputable def KeptAll (h h' : Heap) : Prop := ∀ b o, h.get? b = some o → h'.get? b = some o
theorem keep_all {led out : List (Addr × Obj)} {g h h' h₀ : Heap} {L L' : Addr} {m' : Str → Option Value} (hK : KeptBut (led.map (·.1)) h g) (F' : Fr g L' h' m') (N : News h₀ L h led) (kN : News h₀ L h' out) (hled : ∀ q ∈ led, q ∈ out) : KeptAll h h' := fun b o e => by
  by_cases hm : b ∈ led.map (·.1)
  · obtain ⟨r, hr, e1⟩ := List.mem_map.mp hm
    have h1 := (N r hr).1
    rw [e1, e] at h1
    have h2 := (kN r (hled r hr)).1
    rw [e1, ← Option.some.inj h1] at h2
    exact h2
  · exact F'.keep _ _ (hK _ _ e hm)
theorem RowsAt.four {h : Heap} {D d1 d2 d3 d4 l1 l2 l3 l4 : Addr} {x1 x2 x3 x4 : Int} {n n1 n2 n3 n4 m1 m2 m3 m4 : Nat}
    {a1 a2 a3 a4 b1 b2 b3 b4 p1 p2 p3 p4 q1 q2 q3 q4 r1 r2 r3 r4 : Tok} {vs ws1 ws2 ws3 ws4 us1 us2 us3 us4 : Array Value}
    (g : h.get? D = some (listOf vs n)) (ev : vs.toList = [.ref d1, .ref d2, .ref d3, .ref d4])
    (g1 : h.get? d1 = some { cls := .type "tuple", data := .seq ws1 n1 }) (e1 : ws1.toList = [.int (x1.fdiv 48) a1, .int (x1.fmod 48) b1, .ref l1])
    (g2 : h.get? d2 = some { cls := .type "tuple", data := .seq ws2 n2 }) (e2 : ws2.toList = [.int (x2.fdiv 48) a2, .int (x2.fmod 48) b2, .ref l2])
    (g3 : h.get? d3 = some { cls := .type "tuple", data := .seq ws3 n3 }) (e3 : ws3.toList = [.int (x3.fdiv 48) a3, .int (x3.fmod 48) b3, .ref l3])
    (g4 : h.get? d4 = some { cls := .type "tuple", data := .seq ws4 n4 }) (e4 : ws4.toList = [.int (x4.fdiv 48) a4, .int (x4.fmod 48) b4, .ref l4])
    (k1 : h.get? l1 = some (listOf us1 m1)) (f1 : us1.toList = [.int (shineAt (x1.fmod 48) 0) p1, .int (shineAt (x1.fmod 48) 16) q1, .int (shineAt (x1.fmod 48) 32) r1])
    (k2 : h.get? l2 = some (listOf us2 m2)) (f2 : us2.toList = [.int (shineAt (x2.fmod 48) 0) p2, .int (shineAt (x2.fmod 48) 16) q2, .int (shineAt (x2.fmod 48) 32) r2])
    (k3 : h.get? l3 = some (listOf us3 m3)) (f3 : us3.toList = [.int (shineAt (x3.fmod 48) 0) p3, .int (shineAt (x3.fmod 48) 16) q3, .int (shineAt (x3.fmod 48) 32) r3])
    (k4 : h.get? l4 = some (listOf us4 m4)) (f4 : us4.toList = [.int (shineAt (x4.fmod 48) 0) p4, .int (shineAt (x4.fmod 48) 16) q4, .int (shineAt (x4.fmod 48) 32) r4]) :
    RowsAt h D [x1, x2, x3, x4] := by
  have shine : ∀ {l : Addr} {x : Int} {m : Nat} {p q r : Tok} {us : Array Value}, h.get? l = some (listOf us m) → us.toList = [.int (shineAt (x.fmod 48) 0) p, .int (shineAt (x.fmod 48) 16) q, .int (shineAt (x.fmod 48) 32) r] → Reads h (.ref l) (.list [.int (shineAt (x.fmod 48) 0), .int (shineAt (x.fmod 48) 16), .int (shineAt (x.fmod 48) 32)]) [l] := by
    intro l x m p q r us k f
    exact reads_list_at k rfl rfl (by rw [f]; exact .cons (.int _ _) (.cons (.int _ _) (.cons (.int _ _) .nil)))
  have row : ∀ {d l : Addr} {x : Int} {m : Nat} {p q : Tok} {us : Array Value}, h.get? d = some { cls := .type "tuple", data := .seq us m } → us.toList = [.int (x.fdiv 48) p, .int (x.fmod 48) q, .ref l] → Reads h (.ref l) (.list [.int (shineAt (x.fmod 48) 0), .int (shineAt (x.fmod 48) 16), .int (shineAt (x.fmod 48) 32)]) [l] → Reads h (.ref d) (rowD x) [l] := by
    intro d l x m p q us k f R
    exact reads_tuple_at k rfl rfl (by rw [f]; exact .cons (.int _ _) (.cons (.int _ _) (.cons R .nil)))
  exact ⟨_, reads_list_at g rfl rfl (by rw [ev]; exact .cons (row g1 e1 (shine k1 f1)) (.cons (row g2 e2 (shine k2 f2)) (.cons (row g3 e3 (shine k3 f3)) (.cons (row g4 e4 (shine k4 f4)) .nil))))⟩
/-- the rows as entries of a ledger -/
noncomputable def RowsN (h₀ : Heap) (L : Addr) (h : Heap) (D : Addr) (x1 x2 x3 x4 : Int) : Prop :=
  ∃ (d1 l1 d2 l2 d3 l3 d4 l4 : Addr) (n n1 n2 n3 n4 m1 m2 m3 m4 : Nat) (a1 b1 p1 q1 r1 a2 b2 p2 q2 r2 a3 b3 p3 q3 r3 a4 b4 p4 q4 r4 : Tok),
    News h₀ L h [(D, listOf [Value.ref d1, .ref d2, .ref d3, .ref d4].toArray n), (d1, tupO [.int (x1.fdiv 48) a1, .int (x1.fmod 48) b1, .ref l1] n1), (l1, listOf [Value.int (shineAt (x1.fmod 48) 0) p1, .int (shineAt (x1.fmod 48) 16) q1, .int (shineAt (x1.fmod 48) 32) r1].toArray m1), (d2, tupO [.int (x2.fdiv 48) a2, .int (x2.fmod 48) b2, .ref l2] n2), (l2, listOf [Value.int (shineAt (x2.fmod 48) 0) p2, .int (shineAt (x2.fmod 48) 16) q2, .int (shineAt (x2.fmod 48) 32) r2].toArray m2), (d3, tupO [.int (x3.fdiv 48) a3, .int (x3.fmod 48) b3, .ref l3] n3), (l3, listOf [Value.int (shineAt (x3.fmod 48) 0) p3, .int (shineAt (x3.fmod 48) 16) q3, .int (shineAt (x3.fmod 48) 32) r3].toArray m3), (d4, tupO [.int (x4.fdiv 48) a4, .int (x4.fmod 48) b4, .ref l4] n4), (l4, listOf [Value.int (shineAt (x4.fmod 48) 0) p4, .int (shineAt (x4.fmod 48) 16) q4, .int (shineAt (x4.fmod 48) 32) r4].toArray m4)]
theorem arr_of {vs : Array Value} {l : List Value} (e : vs.toList = l) : vs = l.toArray := by rw [← e]
theorem RowsN.four {h₀ h : Heap} {news : List (Addr × Obj)} {L D d1 d2 d3 d4 l1 l2 l3 l4 : Addr} {x1 x2 x3 x4 : Int} {n n1 n2 n3 n4 m1 m2 m3 m4 : Nat}
    {a1 a2 a3 a4 b1 b2 b3 b4 p1 p2 p3 p4 q1 q2 q3 q4 r1 r2 r3 r4 : Tok} {vs ws1 ws2 ws3 ws4 us1 us2 us3 us4 : Array Value} (N : News h₀ L h news)
    (g : (D, listOf vs n) ∈ news) (ev : vs.toList = [.ref d1, .ref d2, .ref d3, .ref d4])
    (g1 : (d1, ({ cls := .type "tuple", data := .seq ws1 n1 } : Obj)) ∈ news) (e1 : ws1.toList = [.int (x1.fdiv 48) a1, .int (x1.fmod 48) b1, .ref l1])
    (g2 : (d2, ({ cls := .type "tuple", data := .seq ws2 n2 } : Obj)) ∈ news) (e2 : ws2.toList = [.int (x2.fdiv 48) a2, .int (x2.fmod 48) b2, .ref l2])
    (g3 : (d3, ({ cls := .type "tuple", data := .seq ws3 n3 } : Obj)) ∈ news) (e3 : ws3.toList = [.int (x3.fdiv 48) a3, .int (x3.fmod 48) b3, .ref l3])
    (g4 : (d4, ({ cls := .type "tuple", data := .seq ws4 n4 } : Obj)) ∈ news) (e4 : ws4.toList = [.int (x4.fdiv 48) a4, .int (x4.fmod 48) b4, .ref l4])
    (k1 : (l1, listOf us1 m1) ∈ news) (f1 : us1.toList = [.int (shineAt (x1.fmod 48) 0) p1, .int (shineAt (x1.fmod 48) 16) q1, .int (shineAt (x1.fmod 48) 32) r1])
    (k2 : (l2, listOf us2 m2) ∈ news) (f2 : us2.toList = [.int (shineAt (x2.fmod 48) 0) p2, .int (shineAt (x2.fmod 48) 16) q2, .int (shineAt (x2.fmod 48) 32) r2])
    (k3 : (l3, listOf us3 m3) ∈ news) (f3 : us3.toList = [.int (shineAt (x3.fmod 48) 0) p3, .int (shineAt (x3.fmod 48) 16) q3, .int (shineAt (x3.fmod 48) 32) r3])
    (k4 : (l4, listOf us4 m4) ∈ news) (f4 : us4.toList = [.int (shineAt (x4.fmod 48) 0) p4, .int (shineAt (x4.fmod 48) 16) q4, .int (shineAt (x4.fmod 48) 32) r4])
    : RowsN h₀ L h D x1 x2 x3 x4 := by
  have ev' := arr_of ev
  subst ev'
  have e1' := arr_of e1
  subst e1'
  have f1' := arr_of f1
  subst f1'
  have e2' := arr_of e2
  subst e2'
  have f2' := arr_of f2
  subst f2'
  have e3' := arr_of e3
  subst e3'
  have f3' := arr_of f3
  subst f3'
  have e4' := arr_of e4
  subst e4'
  have f4' := arr_of f4
  subst f4'
  refine ⟨d1, l1, d2, l2, d3, l3, d4, l4, n, n1, n2, n3, n4, m1, m2, m3, m4, a1, b1, p1, q1, r1, a2, b2, p2, q2, r2, a3, b3, p3, q3, r3, a4, b4, p4, q4, r4, fun q hq => ?_⟩
  rcases List.mem_cons.mp hq with rfl | hq
  · exact N _ g
  rcases List.mem_cons.mp hq with rfl | hq
  · exact N _ g1
  rcases List.mem_cons.mp hq with rfl | hq
  · exact N _ k1
  rcases List.mem_cons.mp hq with rfl | hq
  · exact N _ g2
  rcases List.mem_cons.mp hq with rfl | hq
  · exact N _ k2
  rcases List.mem_cons.mp hq with rfl | hq
  · exact N _ g3
  rcases List.mem_cons.mp hq with rfl | hq
  · exact N _ k3
  rcases List.mem_cons.mp hq with rfl | hq
  · exact N _ g4
  rcases List.mem_cons.mp hq with rfl | hq
  · exact N _ k4
  nomatch hq
theorem rows_shaped {x1 x2 x3 x4 : Int} : PySem.SeqAt.shaped (rowsD [x1, x2, x3, x4]) = true := rfl
theorem rows_same {x1 x2 x3 x4 : Int} : PyData.eqv (rowsD [x1, x2, x3, x4]) (rowsD [x1, x2, x3, x4]) = true := PySem.SeqAt.eqv_refl _ rfl
end Mine
end
section
open PySem PySem.W PyProof.Rows PySem.Calls
set_option maxRecDepth 100000
set_option maxHeartbeats 16000000
namespace Mine
example (P : Params) : PySem.Challenge.rw_xg0060_01 = PySem.Challenge.rw_xg0060_01 ∧ hd.heap_39 P = hd.heap_39 P := by
  w_top off
  k_fill
  exact ⟨rfl, rfl⟩
example : True := by
  k_with_none
  (k_with "k_enter" => (refine' enter_at ?k1Zq ?k2Zq ?k3Zq ?k4Zq ?k5Zq ?kAZq ?kFZq ?kKZq ?k6Zq ?k7Zq ?k8Zq ?k9Zq ?kBZq ?_ ?c2Zq ?c3Zq ?c4Zq ?c5Zq; (case kAZq => exact rfl); (case kFZq => exact rfl); (case kKZq => assumption); (case k1Zq => k_asm); (case k2Zq => k_asm); (case k3Zq => k_asm); (case k4Zq => k_asm); (case k5Zq => k_asm); (case k6Zq => k_is); (case k7Zq => k_is); (case k8Zq => ktr_room); (case k9Zq => exact BindsTo.of_eq rfl); (case c5Zq => decide); (case kBZq => exact locs rfl); (case c2Zq => exact rfl); (case c3Zq => exact rfl); (case c4Zq => exact rfl); k_whole; intro g' L' h' hKp' FG' F' N' B' X' T'; (try dsimp only); (try k_lift B'); (try k_fold)))
  trivial
theorem allNe_get {d a : Addr} {o : Obj} {l : List (Addr × Obj)} (h : AllNe d l) (hp : (a, o) ∈ l) : @Ne Nat a d := (ne_allNe h) _ hp
example : True := by
  (k_with "k_ne" => (refine neN ?_; (try dsimp only); (first | exact allNe_get (by with_reducible assumption) (by k_mem) | exact Ne.symm (allNe_get (by with_reducible assumption) (by k_mem)) | omega)))
  (k_with "call ref" => (k_here; (with_reducible show wpAny _ _ (call (Value.ref 152) _) _ _ _); k_dflt (refine' shine_cl ?k1Zq ?k2Zq ?k3Zq ?k4Zq ?k5Zq ?k6Zq ?k7Zq ?k8Zq ?_; (case k1Zq => k_asm); (case k2Zq => k_asm); (case k3Zq => k_asm); (case k4Zq => k_asm); (case k5Zq => k_asm); (case k6Zq => first | exact rfl | assumption); (case k7Zq => ktr_room); (case k8Zq => ktr_units); k_whole); intro D' t1' t2' t3' n' h' tk' F' N' l1; (replace l1 := allNe_of l1); (try dsimp only at F' N' ⊢); (try k_sweep)))
  (k_with "WhPost" => (dsimp only [WhPost]))
  (k_with "WhEnd" => (exact wh_end (by assumption) (by assumption) rfl (by intro z hz; simp only [if_neg hz])))
  (k_with "ite" => first | (with_reducible refine ite_nz (NzMod.out (by assumption)) ?_) | (with_reducible refine ite_z (ZMod.out (by assumption)) ?_))
  (k_with "lcg_off" => with_reducible assumption)
  (k_with "CompRest" => (with_unfolding_all first | (refine LCg.CompRest.succ ?_; intro v' I' oI' C' oC' D' m' h' tk' E' hv' hC' hx' F' N' off' ne'; (first | lcg_open hv' | (obtain ⟨t9', hv9'⟩ := hv'; subst hv9')); (try k_sweep)) | refine LCg.CompRest.zero ?_))
  (k_with "CompSrc" => (k_here; k_dflt (refine LCg.CompSrc.ledger (by rfl) (by k_asm) (by k_asm) (by k_mem) (by first | exact Nat.le_of_ble_eq_true rfl | size_fits) ?_; intro g'; lcg_lit)))
  (k_with "exec While Compare" => (k_here; (rename Fr _ _ _ _ => wF'); (rename News _ _ _ _ => wN'); (refine' wh_mod (y := Str.ofString "hour") ?smZq ?hsZq wF' wN' ?hyZq ?_ ?_ ?hEZq; (case smZq => assumption); (case hsZq => omega); (case hyZq => exact rfl); (case hEZq => passes_own)); (all_goals (clear wF' wN')); (all_goals intro v' t' h' tk' hv'); (all_goals (first | (intro (_ : ZMod _ _) F' N') | intro F' N')); (all_goals (try dsimp only at F' N' ⊢)); (all_goals (try k_fold))))
  trivial
section
variable {w : World} {mean : ExcName → Option Value} {mg mb : Str → Option Value} {loose : List Str} {dp un : Nat} {gd : Option (List Code)} {cn : Str} {cs : Scope} {a : Addr} {ccd : Value} {cl : List (Str × Addr)} {outer : List Env} {A₀ : Around} {base h₀ : Heap} {L : Addr} {m : Str → Option Value} {s : Shared} {Q E : Value → Shared → Prop} {news : List (Addr × Obj)}
theorem cal_cl {home way size h1 h2 h3 c1 c2 c3 : Int} {u1 u2 u3 t1 t2 t3 t4 t5 t6 : Tok} {l a1 a2 a3 : Addr} {n n1 n2 n3 : Nat}
    (B : Below A₀ base outer h₀) (F : Fr h₀ L s.heap m) (X : (hd.heap_39 w.params).In h₀)
    (N : News h₀ L s.heap ([(l, listOf [Value.ref a1, .ref a2, .ref a3].toArray n), (a1, tupO [.int h1 t1, .int c1 t2] n1), (a2, tupO [.int h2 t3, .int c2 t4] n2), (a3, tupO [.int h3 t5, .int c3 t6] n3)] ++ news)) (T : Top hd.view_39 loose mean mg mb h₀) (hk : cs.kind = .function)
    (hdp : dp + 6 < recursionLimit) (hun : un + 100 < cLine) (hs1 : 1 ≤ size) (hs8 : size ≤ 8) (hw1 : -1 ≤ way) (hw2 : way ≤ 1)
    (hret : ∀ (D : Addr) (h' : Heap) (tk' : Nat), Fr h₀ L h' m → KeptAll s.heap h' → (∀ v1 v2 v3, v1 = roundUp (0 + h1 + 1) size → v2 = roundUp (v1 + h2 + 1) size → v3 = roundUp (v2 + h3 + 1) size →
      RowsN h₀ L h' D home (2 * v1 + zstep way home c1) (2 * v2 + zstep way (zstep way home c1) c2) (2 * v3 + zstep way (zstep way (zstep way home c1) c2) c3)) → Q (.ref D) { s with heap := h', toks := tk' }) :
    wpAny (model PySem.Challenge.rw_xg0060_01.row.prog w) (ktrTop dp un gd cn cs L a ccd cl outer) (call (.ref 157) [.int home u1, .ref l, .int way u2, .int size u3]) Q E s := by
  have sM : SMark size := ⟨⟩
  have NL : News h₀ L s.heap [(l, listOf [Value.ref a1, .ref a2, .ref a3].toArray n), (a1, tupO [.int h1 t1, .int c1 t2] n1), (a2, tupO [.int h2 t3, .int c2 t4] n2), (a3, tupO [.int h3 t5, .int c3 t6] n3)] := fun p hp => N p (List.mem_append_left _ hp)
  refine wpAny_call ?_
  k_dflt k_enter
  k_steps
  all_goals (
    (rename Fr _ _ _ _ => zF)
    (rename News _ _ _ _ => zN)
    refine hret _ _ _ zF (keep_all (led := [(l, listOf [Value.ref a1, .ref a2, .ref a3].toArray n), (a1, tupO [.int h1 t1, .int c1 t2] n1), (a2, tupO [.int h2 t3, .int c2 t4] n2), (a3, tupO [.int h3 t5, .int c3 t6] n3)]) (by assumption) (by assumption) NL zN ?_) ?_
    · lcg_sub
    · intro v1 v2 v3 q1 q2 q3
      have e1 : _ = v1 := (RUp.out (by with_reducible assumption : RUp _ (0 + h1 + 1) size)).trans q1.symm
      subst e1
      have e2 : _ = v2 := (RUp.out (by with_reducible assumption : RUp _ (_ + h2 + 1) size)).trans q2.symm
      subst e2
      have e3 : _ = v3 := (RUp.out (by with_reducible assumption : RUp _ (_ + h3 + 1) size)).trans q3.symm
      subst e3
      exact RowsN.four zN (by k_mem) rfl (by k_mem) rfl (by k_mem) rfl (by k_mem) rfl (by k_mem) rfl (by k_mem) rfl (by k_mem) rfl (by k_mem) rfl (by k_mem) rfl)
end
end Mine
end
section
open PySem PySem.W PyProof.Rows PySem.Calls
set_option maxRecDepth 100000
set_option maxHeartbeats 16000000
namespace Mine
structure Cps (x : Str) (l : List Nat) : Prop where
  out : x.cps.toList = l
noncomputable def grow (p : List Nat) (h : Int) : List Nat := (p ++ List.replicate h.toNat 32) ++ [9]
theorem zstep_lo {way z c : Int} : -24 ≤ zstep way z c := by
  unfold zstep
  rw [Int.fmod_eq_emod_of_nonneg _ (by decide)]
  have := Int.emod_nonneg (z + 2 * way * c + 24) (b := 48) (by decide)
  omega
theorem zstep_hi {way z c : Int} : zstep way z c < 24 := by
  unfold zstep
  rw [Int.fmod_eq_emod_of_nonneg _ (by decide)]
  have := Int.emod_lt_of_pos (z + 2 * way * c + 24) (b := 48) (by decide)
  omega
theorem cps_reps (x : Str) (k : Nat) (l : List Nat) (h : x.cps.toList = l) : (List.replicate k x.cps).foldl (· ++ ·) #[] = ((List.replicate k l).flatten).toArray := by
  have g : ∀ (k : Nat) (z : Array Nat), ((List.replicate k x.cps).foldl (· ++ ·) z).toList = z.toList ++ (List.replicate k l).flatten := by
    intro k
    induction k with
    | zero => intro z; simp
    | succ k ih => intro z; rw [List.replicate_succ, List.foldl_cons, ih, List.replicate_succ]; simp [h]
  have e := g k #[]
  apply Array.toList_inj.mp
  rw [e]
  simp
section
variable {prog : Program} {w : World} {A : Around} {E : Value → Shared → Prop} {Q : Value → Shared → Prop} {s : Shared} {x y : Str} {t u : Tok} {l l' : List Nat}
theorem cps_add (hx : Cps x l) (hy : Cps y l') (h1 : l.length ≤ 1000) (h2 : l'.length ≤ 1000) (h : ∀ z t k, Cps z (l ++ l') → Q (.str z t) { s with toks := k }) :
    wpAny (model prog w) A (binaryOp .Add (.str x t) (.str y u)) Q E s := by
  refine SB.add (fun t' k => h _ _ _ ⟨?_⟩) ?_
  · have e : (x ++ y).cps = x.cps ++ y.cps := rfl
    rw [e, Array.toList_append, hx.out, hy.out]
  · have e1 : x.length = l.length := by rw [← hx.out]; rfl
    have e2 : y.length = l'.length := by rw [← hy.out]; rfl
    have : (2000 : Nat) ≤ sizeLine := by decide
    omega
theorem cps_mul {n : Int} (h0 : 0 ≤ n) (h1 : n ≤ 7) (h : ∀ z t k, Cps z (List.replicate n.toNat 32) → Q (.str z t) { s with toks := k }) :
    wpAny (model prog w) A (binaryOp .Mult (.str (Str.ofString " ") t) (.int n u)) Q E s := by
  refine SB.mul (mulOk_of 16 1048576 (by decide) (by omega) (by omega) (by decide) (by decide)) (fun t' k => h _ _ _ ⟨?_⟩)
  have hc : n = 0 ∨ n = 1 ∨ n = 2 ∨ n = 3 ∨ n = 4 ∨ n = 5 ∨ n = 6 ∨ n = 7 := by omega
  rcases hc with rfl | rfl | rfl | rfl | rfl | rfl | rfl | rfl <;> rfl
end
end Mine
end
section
open PySem PySem.W PyProof.Rows PySem.Calls
set_option maxRecDepth 100000
set_option maxHeartbeats 16000000
namespace Mine
theorem allLt_get {d a : Addr} {o : Obj} : ∀ {l : List (Addr × Obj)}, AllLt d l → (a, o) ∈ l → @LT.lt Nat _ a d
  | [], _, hp => nomatch hp
  | _ :: _, h, hp => by
    rcases List.mem_cons.mp hp with e | hp
    · rw [← e] at h; exact h.1
    · exact allLt_get h.2 hp
theorem allLt_up {d x : Addr} {o : Obj} : ∀ {l : List (Addr × Obj)}, AllLt d l → @LT.lt Nat _ d x → AllLt x ((d, o) :: l)
  | [], _, hx => ⟨hx, trivial⟩
  | _ :: _, h, hx => ⟨hx, Nat.lt_trans h.1 hx, (allLt_up (o := o) h.2 hx).2⟩
noncomputable def FreshAt (h : Heap) (as : List Addr) : Prop := ∀ a ∈ as, h.get? a = none
theorem fresh_one {led out : List (Addr × Obj)} {g h h'' : Heap} {L' D : Addr} {o : Obj} (hK : KeptBut (led.map (·.1)) h g) (N' : News g L' h'' out) (hD : (D, o) ∈ out) (hne : ∀ q ∈ led, q.1 ≠ D) : h.get? D = none := by
  cases e : h.get? D with
  | none => rfl
  | some p =>
    by_cases hm : D ∈ led.map (·.1)
    · obtain ⟨r, hr, e'⟩ := List.mem_map.mp hm
      exact absurd e' (hne r hr)
    · have h1 := hK _ _ e hm
      rw [(N' _ hD).2.2] at h1
      cases h1
theorem fresh_ne {h₀ h : Heap} {L a : Addr} {o : Obj} {as : List Addr} {news : List (Addr × Obj)} (f : FreshAt h as) (N : News h₀ L h news) (hp : (a, o) ∈ news) {b : Addr} (hb : b ∈ as) : @Ne Nat a b := fun e => by
  have h1 := (N _ hp).1
  have h2 := f _ hb
  rw [e] at h1
  rw [h2] at h1
  cases h1
/-- a stop: its lead and its zone -/
noncomputable def StopAt (P : Params) (h₀ : Heap) (L : Addr) (h : Heap) (T x d e f : Addr) (z : Int) (pre : List Nat) : Prop :=
  ∃ (t1 t2 t3 t4 t5 t6 t7 t8 t9 : Tok) (rv sv : Value) (its : List Value) (n1 n2 n3 : Nat),
    News h₀ L h [(T, tupO [.ref x, .int (1800 * z) t9] n3), (x, instObj 134 d), (d, wsDict P t1 t2 t3 t4 t5 rv (.int (wsFold pre).n t6) (.int (wsFold pre).nt t7) sv e), (e, tupO [.ref f, .int (wsFold pre).b t8] n1), (f, tupO its n2)] ∧
    IntsAre its (wsFold pre).cnt ∧ (wsFold pre).cnt.length ≤ 100
theorem news_sub {h₀ h : Heap} {L : Addr} {l news : List (Addr × Obj)} (N : News h₀ L h news) (hs : ∀ q ∈ l, q ∈ news) : News h₀ L h l := fun q hq => N q (hs q hq)
end Mine
end
section
open PySem PySem.W PyProof.Rows PySem.Calls
set_option maxRecDepth 100000
set_option maxHeartbeats 16000000
namespace Mine
example (P : Params) : PySem.Challenge.rw_xg0060_01 = PySem.Challenge.rw_xg0060_01 ∧ hd.heap_39 P = hd.heap_39 P := by
  w_top off
  k_fill
  exact ⟨rfl, rfl⟩
theorem cps_tab : Cps (Str.ofString "\t") [9] := ⟨rfl⟩
theorem cps_x : Cps (Str.ofString "x\t") [120, 9] := ⟨rfl⟩
theorem cps_nil : Cps (Str.ofString "") [] := ⟨rfl⟩
theorem ws_zero : (Str.ofString "x\t").cps.toList = [] ++ [120, 9] := rfl
example : True := by
  k_with_none
  (k_with "k_lt" => skip)
  (k_with "k_ne" => (refine neN ?_; (try dsimp only); (first | exact Nat.ne_of_lt (allLt_get (by with_reducible assumption) (by k_mem)) | exact Nat.ne_of_gt (allLt_get (by with_reducible assumption) (by k_mem)) | omega)))
  (k_with "k_enter" => (refine' enter_at ?k1Zq ?k2Zq ?k3Zq ?k4Zq ?k5Zq ?kAZq ?kFZq ?kKZq ?k6Zq ?k7Zq ?k8Zq ?k9Zq ?kBZq ?_ ?c2Zq ?c3Zq ?c4Zq ?c5Zq; (case kAZq => exact rfl); (case kFZq => exact rfl); (case kKZq => assumption); (case k1Zq => k_asm); (case k2Zq => k_asm); (case k3Zq => k_asm); (case k4Zq => k_asm); (case k5Zq => k_asm); (case k6Zq => k_is); (case k7Zq => k_is); (case k8Zq => ktr_room); (case k9Zq => exact BindsTo.of_eq rfl); (case c5Zq => decide); (case kBZq => exact locs rfl); (case c2Zq => exact rfl); (case c3Zq => exact rfl); (case c4Zq => exact rfl); k_whole; intro g' L' h' hKp' FG' F' N' B' X' T'; (try dsimp only); (try k_lift B'); (try k_fold)))
  (k_with "call ref" => (k_here; (with_reducible show wpAny _ _ (call (Value.ref 134) _) _ _ _); k_dflt (refine' ws_cl ?k1Zq ?k2Zq ?k3Zq ?k4Zq ?k5Zq ?k6Zq ?k7Zq ?k8Zq ?rZq ?pZq ?eZq ?_; (case k1Zq => k_asm); (case k2Zq => k_asm); (case k3Zq => k_asm); (case k4Zq => k_asm); (case k5Zq => k_asm); (case k6Zq => first | exact rfl | assumption); (case k7Zq => ktr_room); (case k8Zq => ktr_units); (case rZq => first | exact Cps.out (by with_reducible assumption) | exact ws_zero); (case pZq => (intro ch hc; (simp only [List.mem_append, List.mem_replicate, List.mem_cons, List.not_mem_nil, or_false, false_or] at hc) <;> omega)); (case eZq => (simp only [List.length_append, List.length_replicate, List.length_cons, List.length_nil]; omega)); k_whole); intro x' d' D1' D2' t1' t2' t3' t4' t5' t6' t7' t8' rv' sv' its' n1' n2' h' tk' F' N' hI' hL' l1 l2 l3 l4; (replace l1 := allLt_of l1; replace l2 := allLt_up (o := dictOf [] 0) l1 l2; replace l3 := allLt_up (o := dictOf [] 0) l2 l3; replace l4 := allLt_up (o := dictOf [] 0) l3 l4); (try dsimp only at F' N' ⊢); (try k_sweep)))
  (k_with "call ref" => (k_here; (with_reducible show wpAny _ _ (call (Value.ref 145) _) _ _ _); k_dflt (refine' zone_cl ?k1Zq ?k2Zq ?k3Zq ?k4Zq ?k5Zq ?k6Zq ?k7Zq ?k8Zq ?z1Zq ?z2Zq ?z3Zq ?z4Zq ?_; (case k1Zq => k_asm); (case k2Zq => k_asm); (case k3Zq => k_asm); (case k4Zq => k_asm); (case k5Zq => k_asm); (case k6Zq => first | exact rfl | assumption); (case k7Zq => ktr_room); (case k8Zq => ktr_units); (case z1Zq => first | assumption | exact zstep_lo); (case z2Zq => first | assumption | exact zstep_hi); (case z3Zq => decide); (case z4Zq => decide); k_whole); intro t1' h' tk' F' N'; (try dsimp only at F' N' ⊢); (try k_sweep)))
  (k_with "call ref" => (k_here; (with_reducible show wpAny _ _ (call (Value.ref 51) _) _ _ _); k_dflt (refine' off_cl ?k1Zq ?k2Zq ?k3Zq ?k4Zq ?k5Zq ?k6Zq ?k7Zq ?z1Zq ?z2Zq ?z3Zq ?z4Zq ?_; (case k1Zq => k_asm); (case k2Zq => k_asm); (case k3Zq => k_asm); (case k4Zq => k_asm); (case k5Zq => k_asm); (case k6Zq => first | exact rfl | assumption); (case k7Zq => ktr_room); (case z1Zq => first | assumption | exact zstep_lo); (case z2Zq => first | assumption | exact zstep_hi); (case z3Zq => decide); (case z4Zq => decide); k_whole); intro t1' h' tk' F' N'; (try dsimp only at F' N' ⊢); (try k_sweep)))
  (k_with "binaryOp Mult str int" => (k_here; (refine cps_mul (by omega) (by omega) ?_); intro z' t' k' c'))
  (k_with "binaryOp Add str str" => (k_here; refine' cps_add ?xZq ?yZq ?aZq ?bZq ?_; (case xZq => first | with_reducible assumption | exact cps_nil); (case yZq => first | with_reducible assumption | exact cps_tab | exact cps_x); (case aZq => (simp only [List.length_append, List.length_replicate, List.length_cons, List.length_nil]; omega)); (case bZq => (simp only [List.length_append, List.length_replicate, List.length_cons, List.length_nil]; omega)); intro z' t' k' c'))
  trivial
section
variable {w : World} {mean : ExcName → Option Value} {mg mb : Str → Option Value} {loose : List Str} {dp un : Nat} {gd : Option (List Code)} {cn : Str} {cs : Scope} {a : Addr} {ccd : Value} {cl : List (Str × Addr)} {outer : List Env} {A₀ : Around} {base h₀ : Heap} {L : Addr} {m : Str → Option Value} {s : Shared} {Q E : Value → Shared → Prop} {news : List (Addr × Obj)}
theorem stops_cl {home way h1 h2 h3 c1 c2 c3 : Int} {u1 u2 t1 t2 t3 t4 t5 t6 : Tok} {l a1 a2 a3 : Addr} {n n1 n2 n3 : Nat}
    (B : Below A₀ base outer h₀) (F : Fr h₀ L s.heap m) (X : (hd.heap_39 w.params).In h₀)
    (N : News h₀ L s.heap ([(l, listOf [Value.ref a1, .ref a2, .ref a3].toArray n), (a1, tupO [.int h1 t1, .int c1 t2] n1), (a2, tupO [.int h2 t3, .int c2 t4] n2), (a3, tupO [.int h3 t5, .int c3 t6] n3)] ++ news)) (T : Top hd.view_39 loose mean mg mb h₀) (hk : cs.kind = .function)
    (hdp : dp + 8 < recursionLimit) (hun : un + 200 < cLine) (hw1 : -1 ≤ way) (hw2 : way ≤ 1) (hz1 : -24 ≤ home) (hz2 : home < 24) (g1 : 0 ≤ h1) (g2 : h1 ≤ 7) (g3 : 0 ≤ h2) (g4 : h2 ≤ 7) (g5 : 0 ≤ h3) (g6 : h3 ≤ 7)
    (hret : ∀ (D T0 x0 d0 e0 f0 T1 x1 d1 e1 f1 T2 x2 d2 e2 f2 T3 x3 d3 e3 f3 : Addr) (n : Nat) (h' : Heap) (tk' : Nat), Fr h₀ L h' m → KeptAll s.heap h' → News h₀ L h' [(D, listOf [Value.ref T0, .ref T1, .ref T2, .ref T3].toArray n)] →
      StopAt w.params h₀ L h' T0 x0 d0 e0 f0 home [] → StopAt w.params h₀ L h' T1 x1 d1 e1 f1 (zstep way home c1) (grow [] h1) → StopAt w.params h₀ L h' T2 x2 d2 e2 f2 (zstep way (zstep way home c1) c2) (grow (grow [] h1) h2) →
      StopAt w.params h₀ L h' T3 x3 d3 e3 f3 (zstep way (zstep way (zstep way home c1) c2) c3) (grow (grow (grow [] h1) h2) h3) → Q (.ref D) { s with heap := h', toks := tk' }) :
    wpAny (model PySem.Challenge.rw_xg0060_01.row.prog w) (ktrTop dp un gd cn cs L a ccd cl outer) (call (.ref 164) [.int home u1, .ref l, .int way u2]) Q E s := by
  have NL : News h₀ L s.heap [(l, listOf [Value.ref a1, .ref a2, .ref a3].toArray n), (a1, tupO [.int h1 t1, .int c1 t2] n1), (a2, tupO [.int h2 t3, .int c2 t4] n2), (a3, tupO [.int h3 t5, .int c3 t6] n3)] := fun p hp => N p (List.mem_append_left _ hp)
  refine wpAny_call ?_
  k_dflt k_enter
  k_steps
  all_goals (
    (rename Fr _ _ _ _ => zF)
    (rename News _ _ _ _ => zN)
    refine' hret _ _ _ _ _ _ _ _ _ _ _ _ _ _ _ _ _ _ _ _ _ _ _ _ zF (keep_all (led := [(l, listOf [Value.ref a1, .ref a2, .ref a3].toArray n), (a1, tupO [.int h1 t1, .int c1 t2] n1), (a2, tupO [.int h2 t3, .int c2 t4] n2), (a3, tupO [.int h3 t5, .int c3 t6] n3)]) (by assumption) (by assumption) NL zN ?ks) (news_sub zN (List.forall_mem_cons.mpr ⟨?l0, List.forall_mem_nil _⟩)) ⟨_, _, _, _, _, _, _, _, _, _, _, _, _, _, _, ?s0, ?i0, ?j0⟩ ⟨_, _, _, _, _, _, _, _, _, _, _, _, _, _, _, ?s1, ?i1, ?j1⟩ ⟨_, _, _, _, _, _, _, _, _, _, _, _, _, _, _, ?s2, ?i2, ?j2⟩ ⟨_, _, _, _, _, _, _, _, _, _, _, _, _, _, _, ?s3, ?i3, ?j3⟩
    case ks => lcg_sub
    case l0 => k_mem
    case s0 => exact news_sub zN (by lcg_sub)
    case s1 => exact news_sub zN (by lcg_sub)
    case s2 => exact news_sub zN (by lcg_sub)
    case s3 => exact news_sub zN (by lcg_sub)
    case i0 => assumption
    case i1 => assumption
    case i2 => assumption
    case i3 => assumption
    case j0 => assumption
    case j1 => assumption
    case j2 => assumption
    case j3 => assumption)
end
end Mine
end
section
open PySem PySem.W PyProof.Rows PySem.Calls
set_option maxRecDepth 100000
set_option maxHeartbeats 16000000
namespace Mine
@[irreducible] noncomputable def inR (x : Int) : UInt64 := hueR (hueIn (3600 * 0 + 1800 * x))
@[irreducible] noncomputable def inG (x : Int) : UInt64 := hueG (hueIn (3600 * 0 + 1800 * x))
@[irreducible] noncomputable def inB (x : Int) : UInt64 := hueB (hueIn (3600 * 0 + 1800 * x))
structure HueAt (x : Int) : Prop where
  inf : Float64.isInf (hueIn (3600 * 0 + 1800 * x)) = false
  ne : (Float64.cmp (min3F (inR x) (inG x) (inB x)) (max3F (inR x) (inG x) (inB x)) == some Ordering.eq) = false
  s0 : Float64.isZero (Float64.add (max3F (inR x) (inG x) (inB x)) (min3F (inR x) (inG x) (inB x))) = false
  r0 : Float64.isZero (Float64.sub (max3F (inR x) (inG x) (inB x)) (min3F (inR x) (inG x) (inB x))) = false
  d0 : Float64.isZero (Float64.sub (Float64.sub 4611686018427387904 (max3F (inR x) (inG x) (inB x))) (min3F (inR x) (inG x) (inB x))) = false
  fH : finB (Float64.mul (hueOf (inR x) (inG x) (inB x)) (Float64.ofInt 48)) = true
  fR : finB (Float64.mul (Float64.ofInt 8) (inR x)) = true
  fG : finB (Float64.mul (Float64.ofInt 8) (inG x)) = true
  fB : finB (Float64.mul (Float64.ofInt 8) (inB x)) = true
  vH : Int.fmod (Flt.toInt Float64.nearestOf (Float64.mul (hueOf (inR x) (inG x) (inB x)) (Float64.ofInt 48))) 48 = Int.fmod x 48
  vR : Flt.toInt Float64.nearestOf (Float64.mul (Float64.ofInt 8) (inR x)) = shineAt (Int.fmod x 48) 0
  vG : Flt.toInt Float64.nearestOf (Float64.mul (Float64.ofInt 8) (inG x)) = shineAt (Int.fmod x 48) 16
  vB : Flt.toInt Float64.nearestOf (Float64.mul (Float64.ofInt 8) (inB x)) = shineAt (Int.fmod x 48) 32
theorem hueAt {x : Int} (h1 : -24 ≤ x) (h2 : x < 116) : HueAt x := by
  have h := hueOk_at h1 h2
  have eR : rgbR (3600 * 0 + 1800 * x) = inR x := by unfold inR; rfl
  have eG : rgbG (3600 * 0 + 1800 * x) = inG x := by unfold inG; rfl
  have eB : rgbB (3600 * 0 + 1800 * x) = inB x := by unfold inB; rfl
  unfold hueOk at h
  simp only [hueBack, eightR, eightG, eightB, eR, eG, eB] at h
  simp only [Bool.and_eq_true, Bool.not_eq_true', beq_iff_eq] at h
  obtain ⟨⟨⟨⟨⟨⟨⟨⟨⟨⟨⟨⟨a1, a2⟩, a3⟩, a4⟩, a5⟩, a6⟩, a7⟩, a8⟩, a9⟩, b1⟩, b2⟩, b3⟩, b4⟩ := h
  exact ⟨a1, by first | exact a2 | (simpa using a2), a3, a4, a5, a6, a7, a8, a9, b1, b2, b3, b4⟩
structure ClockOf (K x : Int) : Prop where
  out : Int.fmod K 48 = Int.fmod x 48
section
variable {prog : Program} {w : World} {A : Around} {E : Value → Shared → Prop} {Q : Value → Shared → Prop} {s : Shared} {t u : Tok} {x : Int}
theorem day_div {n : Int} (H : HueAt x) (hA : A.handled = none) (e : n = 3600 * 0 + 1800 * x) (h : ∀ t k, Q (.float (hueIn (3600 * 0 + 1800 * x)) t) { s with toks := k }) :
    wpAny (model prog w) A (binaryOp .Div (.int n t) (.int 86400 u)) Q E s := by
  subst e
  have H' := H.inf
  unfold hueIn at h H'
  refine Flt.div_ii hA (fun h0 => absurd h0 (by decide)) (fun _ hi => ?_) (fun _ _ => h _ _)
  rw [H'] at hi
  cases hi
theorem fin_of {y : UInt64} (h : finB y = true) : Float64.isNaN y = false ∧ Float64.isInf y = false := by
  unfold finB at h
  simpa using h
theorem round_hue (H : HueAt x) (hA : A.handled = none) (h : ∀ K t k, ClockOf K x → Q (.int K t) { s with toks := k }) :
    wpAny (model prog w) A (call (.builtin "round") [.float (Float64.mul (hueOf (inR x) (inG x) (inB x)) (Float64.ofInt 48)) t]) Q E s := by
  have f := fin_of H.fH
  refine Flt.call_round_float hA (fun c => ?_) (fun c => ?_) (fun _ => h _ _ _ ⟨H.vH⟩)
  · rw [f.1] at c; cases c
  · rw [f.2] at c; cases c
theorem round_at {y : UInt64} {v : Int} (H : finB y = true) (hv : Flt.toInt Float64.nearestOf y = v) (hA : A.handled = none) (h : ∀ t k, Q (.int v t) { s with toks := k }) :
    wpAny (model prog w) A (call (.builtin "round") [.float y t]) Q E s := by
  have f := fin_of H
  refine Flt.call_round_float hA (fun c => ?_) (fun c => ?_) (fun _ => hv ▸ h _ _)
  · rw [f.1] at c; cases c
  · rw [f.2] at c; cases c
theorem mod_clock {K : Int} (C : ClockOf K x) (h : ∀ t k, Q (.int (Int.fmod x 48) t) { s with toks := k }) :
    wpAny (model prog w) A (binaryOp .Mod (.int K t) (.int 48 u)) Q E s :=
  mod_int (by decide) (C.out.symm ▸ h _ _)
theorem eight_mul {y : UInt64} (h : ∀ t k, Q (.float (Float64.mul (Float64.ofInt 8) y) t) { s with toks := k }) :
    wpAny (model prog w) A (binaryOp .Mult (.int 8 t) (.float y u)) Q E s := mul_if_fits (by decide) (h _ _)
theorem mul_48 {y : UInt64} (h : ∀ t k, Q (.float (Float64.mul y (Float64.ofInt 48)) t) { s with toks := k }) :
    wpAny (model prog w) A (binaryOp .Mult (.float y t) (.int 48 u)) Q E s := mul_fi_fits (by decide) (h _ _)
end
end Mine
end
section
open PySem PySem.W PyProof.Rows PySem.Calls
set_option maxRecDepth 100000
set_option maxHeartbeats 16000000
namespace Mine
structure StepOk (way z z' x x' : Int) : Prop where
  tt : Int.fmod x' 48 < Int.fmod x 48 → way * (1800 * z' - 1800 * z) < 0 → Int.fdiv x 48 + 1 - way = Int.fdiv x' 48
  tf : Int.fmod x' 48 < Int.fmod x 48 → ¬ way * (1800 * z' - 1800 * z) < 0 → Int.fdiv x 48 + 1 = Int.fdiv x' 48
  ft : ¬ Int.fmod x' 48 < Int.fmod x 48 → way * (1800 * z' - 1800 * z) < 0 → Int.fdiv x 48 - way = Int.fdiv x' 48
  ff : ¬ Int.fmod x' 48 < Int.fmod x 48 → ¬ way * (1800 * z' - 1800 * z) < 0 → Int.fdiv x 48 = Int.fdiv x' 48
structure FirstOk (z x : Int) : Prop where
  out : Int.fdiv (1800 * z) 86400 = Int.fdiv x 48
structure HourAt (cnt : List Int) (b nt size i : Int) : Prop where
  out : indVal cnt b nt size = i
structure HalfAt (i z x : Int) : Prop where
  out : 2 * i + z = x
section
variable {prog : Program} {w : World} {A : Around} {E : Value → Shared → Prop} {Q : Flow → Shared → Prop} {s : Shared} {env : Env} {h₀ : Heap} {L : Addr}
noncomputable def JoinEnd (h₀ : Heap) (L : Addr) (s : Shared) (m₀ : Str → Option Value) (news : List (Addr × Obj)) (y : Str) (v : Int) (s₃ : Shared) : Prop :=
  ∃ h' tk t m', s₃ = { s with heap := h', toks := tk } ∧ Fr h₀ L h' m' ∧ News h₀ L h' news ∧ m' y = some (.int v t) ∧ ∀ z, z ≠ y → m' z = m₀ z
noncomputable def JoinPost (h₀ : Heap) (L : Addr) (s : Shared) (m₀ : Str → Option Value) (news : List (Addr × Obj)) (y : Str) (v : Int) (f : Flow) (s₃ : Shared) : Prop :=
  match f with
  | .next => JoinEnd h₀ L s m₀ news y v s₃
  | _ => False
theorem join_end {m₀ m' : Str → Option Value} {news : List (Addr × Obj)} {y : Str} {v v' : Int} {h' : Heap} {tk : Nat} {t : Tok} (F : Fr h₀ L h' m') (N : News h₀ L h' news) (h1 : m' y = some (.int v' t)) (hm : ∀ z, z ≠ y → m' z = m₀ z) (e : v' = v) :
    JoinEnd h₀ L s m₀ news y v { s with heap := h', toks := tk } := ⟨h', tk, t, m', rfl, F, N, e ▸ h1, hm⟩
theorem if_join {test : Expr} {body : List Stmt} {pos : Pos} {m₀ : Str → Option Value} {news : List (Addr × Obj)} {x : Int} {tc : Tok} (F : Fr h₀ L s.heap m₀) (N : News h₀ L s.heap news)
    (hc : m₀ (Str.ofString "clock") = some (.int (Int.fmod x 48) tc))
    (one : wpAny (model prog w) A (exec (.If test body [] pos) env) (JoinPost h₀ L s m₀ news (Str.ofString "day") (Int.fdiv x 48)) E s)
    (key : ∀ t h tk, Fr h₀ L h (fun z => if z = Str.ofString "day" then some (.int (Int.fdiv x 48) t) else m₀ z) → News h₀ L h news → Q .next { s with heap := h, toks := tk }) :
    wpAny (model prog w) A (exec (.If test body [] pos) env) Q E s := by
  refine wpAny_mono one (fun f s₃ q => ?_) fun _ _ e => e
  cases f with
  | next =>
    obtain ⟨h', tk, t, m', rfl, F', N', h1, hm⟩ := q
    rw [one_map h1 hm] at F'
    exact key t h' tk F' N'
  | _ => exact q.elim
end
section
variable {w : World} {mean : ExcName → Option Value} {mg mb : Str → Option Value} {loose : List Str} {dp un : Nat} {gd : Option (List Code)} {cn : Str} {cs : Scope} {a : Addr} {ccd : Value} {cl : List (Str × Addr)} {outer : List Env} {A₀ : Around} {base h₀ : Heap} {L : Addr} {m : Str → Option Value} {s : Shared} {Q E : Value → Shared → Prop} {news : List (Addr × Obj)}
theorem indent_m {x d D1 D2 : Addr} {t1 t2 t3 t4 t5 t6 t7 u : Tok} {rv sv nv : Value} {its : List Value} {n1 n2 : Nat} {cnt : List Int} {b nt size i : Int}
    (B : Below A₀ base outer h₀) (F : Fr h₀ L s.heap m) (X : (hd.heap_39 w.params).In h₀)
    (N : News h₀ L s.heap news) (T : Top hd.view_39 loose mean mg mb h₀) (hk : cs.kind = .function)
    (hdp : dp + 3 < recursionLimit) (m1 : (x, instObj 134 d) ∈ news) (m2 : (d, wsDict w.params t1 t2 t3 t4 t5 rv nv (.int nt t6) sv D1) ∈ news) (m3 : (D1, tupO [.ref D2, .int b t7] n1) ∈ news) (m4 : (D2, tupO its n2) ∈ news)
    (hI : IntsAre its cnt) (hl : cnt.length ≤ 100) (h1 : 1 ≤ size) (h8 : size ≤ 8) (e : HourAt cnt b nt size i)
    (hret : ∀ (t : Tok) (h' : Heap) (tk' : Nat), Fr h₀ L h' m → News h₀ L h' news → Q (.int i t) { s with heap := h', toks := tk' }) :
    wpAny (model PySem.Challenge.rw_xg0060_01.row.prog w) (ktrTop dp un gd cn cs L a ccd cl outer) (call (.ref 103) [.ref x, .int size u]) Q E s := by
  refine indent_cl (x := x) (d := d) (D1 := D1) (D2 := D2) (t1 := t1) (t2 := t2) (t3 := t3) (t4 := t4) (t5 := t5) (t6 := t6) (t7 := t7) (rv := rv) (sv := sv) (nv := nv) (its := its) (n1 := n1) (n2 := n2) (b := b) (nt := nt) (news := news) B F X (fun q hq => ?_) T hk hdp hI hl h1 h8 (fun t h' tk' F' N' => e.out ▸ hret t h' tk' F' (fun q hq => N' q (.tail _ (.tail _ (.tail _ (.tail _ hq))))))
  rcases List.mem_cons.mp hq with rfl | hq
  · exact N _ m1
  rcases List.mem_cons.mp hq with rfl | hq
  · exact N _ m2
  rcases List.mem_cons.mp hq with rfl | hq
  · exact N _ m3
  rcases List.mem_cons.mp hq with rfl | hq
  · exact N _ m4
  exact N _ hq
end
end Mine
end
section
open PySem PySem.W PyProof.Rows PySem.Calls
set_option maxRecDepth 100000
set_option maxHeartbeats 16000000
namespace Mine
noncomputable def turnEnv (x : Addr) (z size : Int) (t9 t10 : Tok) (m₀ : Str → Option Value) : Str → Option Value :=
  fun y => if y = Str.ofString "offset" then some (.int (1800 * z) t9) else if y = Str.ofString "lead" then some (.ref x) else if y = Str.ofString "size" then some (.int size t10) else m₀ y
noncomputable def GenK (prog : Program) (w : World) (A : Around) (env : Env) (h₀ : Heap) (L : Addr) (E : Value → Shared → Prop) (rest : List Stmt) (Q : Flow → Shared → Prop) (s : Shared) (m : Str → Option Value) (news : List (Addr × Obj)) (z x : Int) : Prop :=
  ∀ (h' : Heap) (tk : Nat) (v : Value) (ta tb tc td te : Tok), Fr h₀ L h' (fun y => if y = Str.ofString "day" then some (.int (Int.fdiv (1800 * z) 86400) ta) else if y = Str.ofString "clock" then some (.int (Int.fmod x 48) tb)
    else if y = Str.ofString "blue" then some (.float (inB x) tc) else if y = Str.ofString "green" then some (.float (inG x) td) else if y = Str.ofString "red" then some (.float (inR x) te) else if y = Str.ofString "seconds" then some v else m y) → News h₀ L h' news →
    wpAny (model prog w) A (execs rest env) Q E { s with heap := h', toks := tk }
noncomputable def Gen (prog : Program) (w : World) (A : Around) (env : Env) (h₀ : Heap) (L : Addr) (size : Int) (S1 S2 S3 S4 : Stmt) : Prop :=
  ∀ (rest : List Stmt) (Q : Flow → Shared → Prop) (E : Value → Shared → Prop) (s : Shared) (m₀ : Str → Option Value) (news : List (Addr × Obj)) (x d e f : Addr) (t1 t2 t3 t4 t5 t6 t7 t9 t10 : Tok) (rv sv nv : Value) (its : List Value) (n1 n2 : Nat) (cnt : List Int) (b nt z i k : Int),
    (x, instObj 134 d) ∈ news → (d, wsDict w.params t1 t2 t3 t4 t5 rv nv (.int nt t6) sv e) ∈ news → (e, tupO [.ref f, .int b t7] n1) ∈ news → (f, tupO its n2) ∈ news → IntsAre its cnt → cnt.length ≤ 100 →
    HourAt cnt b nt size i → HalfAt i z k → HueAt k →
    Fr h₀ L s.heap (fun y => if y = Str.ofString "offset" then some (.int (1800 * z) t9) else if y = Str.ofString "lead" then some (.ref x) else if y = Str.ofString "size" then some (.int size t10) else m₀ y) → News h₀ L s.heap news →
    GenK prog w A env h₀ L E rest Q s (turnEnv x z size t9 t10 m₀) news z k →
    wpAny (model prog w) A (execs (S1 :: S2 :: S3 :: S4 :: rest) env) Q E s
theorem gen_fin {prog : Program} {w : World} {A : Around} {env : Env} {h₀ : Heap} {L : Addr} {E : Value → Shared → Prop} {rest : List Stmt} {Q : Flow → Shared → Prop} {s : Shared} {news : List (Addr × Obj)} {z k size : Int} {x : Addr} {t9 t10 : Tok} {m₀ : Str → Option Value}
    {h' : Heap} {tk : Nat} {v : Value} {ta tb tc td te : Tok} {p q : Addr × Obj} (K : GenK prog w A env h₀ L E rest Q s (turnEnv x z size t9 t10 m₀) news z k)
    (F : Fr h₀ L h' (fun y => if y = Str.ofString "day" then some (.int (Int.fdiv (1800 * z) 86400) ta) else if y = Str.ofString "clock" then some (.int (Int.fmod k 48) tb)
    else if y = Str.ofString "blue" then some (.float (inB k) tc) else if y = Str.ofString "green" then some (.float (inG k) td) else if y = Str.ofString "red" then some (.float (inR k) te) else if y = Str.ofString "seconds" then some v else
      if y = Str.ofString "offset" then some (.int (1800 * z) t9) else if y = Str.ofString "lead" then some (.ref x) else if y = Str.ofString "size" then some (.int size t10) else m₀ y)) (N : News h₀ L h' (p :: q :: news)) :
    wpAny (model prog w) A (execs rest env) Q E { s with heap := h', toks := tk } :=
  K h' tk v ta tb tc td te F (fun r hr => N r (.tail _ (.tail _ hr)))
theorem with_gen {prog : Program} {w : World} {A : Around} {env : Env} {h₀ : Heap} {L : Addr} {size : Int} {S1 S2 S3 S4 : Stmt} {target iter : Expr} {rest orelse : List Stmt} {pos : Pos} {Q : Flow → Shared → Prop} {E : Value → Shared → Prop} {s : Shared} {m : Str → Option Value}
    (F₀ : Fr h₀ L s.heap m) (sM : SMark size) (g : Gen prog w A env h₀ L size S1 S2 S3 S4) (k : Gen prog w A env h₀ L size S1 S2 S3 S4 → wpAny (model prog w) A (exec (.For target iter (S1 :: S2 :: S3 :: S4 :: rest) orelse pos) env) Q E s) :
    wpAny (model prog w) A (exec (.For target iter (S1 :: S2 :: S3 :: S4 :: rest) orelse pos) env) Q E s := k g
theorem same_env {m₀ : Str → Option Value} {y : Str} {v : Option Value} (h : m₀ y = v) : (fun z => if z = y then v else m₀ z) = m₀ := funext fun z => by
  by_cases e : z = y
  · subst e; simp [h]
  · simp [e]
theorem gen_use {prog : Program} {w : World} {A : Around} {env : Env} {h₀ : Heap} {L : Addr} {size : Int} {S1 S2 S3 S4 : Stmt} {rest : List Stmt} {Q : Flow → Shared → Prop} {E : Value → Shared → Prop} {s : Shared} {m₀ : Str → Option Value} {news : List (Addr × Obj)} {x d e f : Addr} {t1 t2 t3 t4 t5 t6 t7 t9 t10 : Tok} {rv sv nv : Value} {its : List Value} {n1 n2 : Nat} {cnt : List Int} {b nt z i k : Int}
    (G : Gen prog w A env h₀ L size S1 S2 S3 S4) (F : Fr h₀ L s.heap (fun y => if y = Str.ofString "offset" then some (.int (1800 * z) t9) else if y = Str.ofString "lead" then some (.ref x) else m₀ y)) (N : News h₀ L s.heap news) (hs : m₀ (Str.ofString "size") = some (.int size t10))
    (m1 : (x, instObj 134 d) ∈ news) (m2 : (d, wsDict w.params t1 t2 t3 t4 t5 rv nv (.int nt t6) sv e) ∈ news) (m3 : (e, tupO [.ref f, .int b t7] n1) ∈ news) (m4 : (f, tupO its n2) ∈ news) (hI : IntsAre its cnt) (hl : cnt.length ≤ 100)
    (H : HourAt cnt b nt size i) (H2 : HalfAt i z k) (H3 : HueAt k)
    (key : ∀ (h' : Heap) (tk : Nat) (v : Value) (ta tb tc td te : Tok), Fr h₀ L h' (fun y => if y = Str.ofString "day" then some (.int (Int.fdiv (1800 * z) 86400) ta) else if y = Str.ofString "clock" then some (.int (Int.fmod k 48) tb)
    else if y = Str.ofString "blue" then some (.float (inB k) tc) else if y = Str.ofString "green" then some (.float (inG k) td) else if y = Str.ofString "red" then some (.float (inR k) te) else if y = Str.ofString "seconds" then some v else
      if y = Str.ofString "offset" then some (.int (1800 * z) t9) else if y = Str.ofString "lead" then some (.ref x) else m₀ y) → News h₀ L h' news → wpAny (model prog w) A (execs rest env) Q E { s with heap := h', toks := tk }) :
    wpAny (model prog w) A (execs (S1 :: S2 :: S3 :: S4 :: rest) env) Q E s := by
  have e0 := same_env hs
  have e1 : ∀ y, (if y = Str.ofString "size" then some (Value.int size t10) else m₀ y) = m₀ y := fun y => congrFun e0 y
  refine G rest Q E s m₀ news x d e f t1 t2 t3 t4 t5 t6 t7 t9 t10 rv sv nv its n1 n2 cnt b nt z i k m1 m2 m3 m4 hI hl H H2 H3 ?_ N ?_
  · simp only [e1]
    exact F
  · intro h' tk v ta tb tc td te F' N'
    simp only [turnEnv, e1] at F'
    exact key h' tk v ta tb tc td te F' N'
end Mine
end
section
open PySem PySem.W PyProof.Rows PySem.Calls
set_option maxRecDepth 100000
set_option maxHeartbeats 16000000
namespace Mine
example (P : Params) : PySem.Challenge.rw_xg0060_01 = PySem.Challenge.rw_xg0060_01 ∧ hd.heap_39 P = hd.heap_39 P := by
  w_top off
  k_fill
  exact ⟨rfl, rfl⟩
theorem news_tail {h₀ h : Heap} {L : Addr} {p : Addr × Obj} {l : List (Addr × Obj)} (N : News h₀ L h (p :: l)) : News h₀ L h l := fun q hq => N q (.tail _ hq)
theorem news_app {h₀ h : Heap} {L : Addr} {l l' : List (Addr × Obj)} (N : News h₀ L h l) (N' : News h₀ L h l') : News h₀ L h (l ++ l') := fun q hq => by
  rcases List.mem_append.mp hq with hq | hq
  · exact N q hq
  · exact N' q hq
theorem five {R : List (Addr × Obj)} {a b c d e : Addr × Obj} (h : ∀ q ∈ [a, b, c, d, e], q ∈ R) : a ∈ R ∧ b ∈ R ∧ c ∈ R ∧ d ∈ R ∧ e ∈ R :=
  ⟨h _ (.head _), h _ (.tail _ (.head _)), h _ (.tail _ (.tail _ (.head _))), h _ (.tail _ (.tail _ (.tail _ (.head _)))), h _ (.tail _ (.tail _ (.tail _ (.tail _ (.head _)))))⟩
theorem news_open {h₀ h : Heap} {L : Addr} {l0 l1 l2 l3 l4 : List (Addr × Obj)} (N0 : News h₀ L h l0) (N1 : News h₀ L h l1) (N2 : News h₀ L h l2) (N3 : News h₀ L h l3) (N4 : News h₀ L h l4) :
    ∃ R, News h₀ L h R ∧ (∀ q ∈ l0, q ∈ R) ∧ (∀ q ∈ l1, q ∈ R) ∧ (∀ q ∈ l2, q ∈ R) ∧ (∀ q ∈ l3, q ∈ R) ∧ (∀ q ∈ l4, q ∈ R) := by
  refine ⟨l0 ++ (l1 ++ (l2 ++ (l3 ++ l4))), fun q hq => ?_, ?_⟩
  · simp only [List.mem_append] at hq
    rcases hq with hq | hq | hq | hq | hq
    · exact N0 q hq
    · exact N1 q hq
    · exact N2 q hq
    · exact N3 q hq
    · exact N4 q hq
  · refine ⟨fun q hq => ?_, fun q hq => ?_, fun q hq => ?_, fun q hq => ?_, fun q hq => ?_⟩ <;> (simp only [List.mem_append]; simp only [hq, true_or, or_true])
theorem ne_tail {D : Addr} {p : Addr × Obj} {l : List (Addr × Obj)} (h : AllLt D (p :: l)) : ∀ p ∈ l, @Ne Nat p.1 D := ne_allLt h.2
theorem ne_tail2 {D : Addr} {p q : Addr × Obj} {l : List (Addr × Obj)} (h : AllLt D (p :: q :: l)) : ∀ p ∈ l, @Ne Nat p.1 D := ne_allLt h.2.2
theorem memL {x : Addr × Obj} {A B : List (Addr × Obj)} (h : List.Mem x A) : List.Mem x (A ++ B) := List.mem_append_left B h
theorem memR {x : Addr × Obj} {A B : List (Addr × Obj)} (h : List.Mem x B) : List.Mem x (A ++ B) := List.mem_append_right A h
theorem all_app {A B : List (Addr × Obj)} {P : Addr × Obj → Prop} (h : ∀ p ∈ A, P p) (k : ∀ p ∈ B, P p) : ∀ p ∈ A ++ B, P p := fun p hp => (List.mem_append.mp hp).elim (h p) (k p)
theorem turn_end {h₀ : Heap} {L : Addr} {s₁ : Shared} {h' : Heap} {tk : Nat} {m' : Str → Option Value} {rest : (Str → Option Value) → List (Addr × Obj) → Prop} {a b I lr : Addr} {ao bo it o : Obj} {T : List (Addr × Obj)}
    (F : Fr h₀ L h' m') (N : News h₀ L h' ((a, ao) :: (b, bo) :: (I, it) :: (lr, o) :: T)) (h1 : @Ne Nat a I) (h2 : @Ne Nat b I) (h3 : @Ne Nat lr I) (h4 : ∀ p ∈ T, @Ne Nat p.1 I) (h5 : @Ne Nat a lr) (h6 : @Ne Nat b lr)
    (k : ∀ R', (a, ao) ∈ R' → (b, bo) ∈ R' → (∀ p ∈ R', @Ne Nat p.1 I) → (∀ p ∈ R', @Ne Nat p.1 lr) → rest m' ((lr, o) :: (R' ++ T))) : UnrEndW h₀ L s₁ [(I, it)] rest { s₁ with heap := h', toks := tk } := by
  have hI : ∀ p ∈ [(a, ao), (b, bo)], @Ne Nat p.1 I := List.forall_mem_cons.mpr ⟨h1, List.forall_mem_cons.mpr ⟨h2, List.forall_mem_nil _⟩⟩
  refine ⟨h', tk, m', (lr, o) :: ([(a, ao), (b, bo)] ++ T), rfl, F, fun p hp => N p ?_, fun p hp q hq => ?_, k [(a, ao), (b, bo)] (.head _) (.tail _ (.head _)) hI (List.forall_mem_cons.mpr ⟨h5, List.forall_mem_cons.mpr ⟨h6, List.forall_mem_nil _⟩⟩)⟩
  · simp only [List.mem_append, List.mem_cons, List.not_mem_nil, or_false] at hp ⊢
    rcases hp with h | h | (h | h) | h <;> simp only [h, true_or, or_true]
  · have e : q = (I, it) := List.mem_singleton.mp hq
    subst e
    rcases List.mem_cons.mp hp with e | hp
    · subst e; exact h3
    · exact all_app hI h4 p hp
theorem turn_end1 {h₀ : Heap} {L : Addr} {s₁ : Shared} {h' : Heap} {tk : Nat} {m' : Str → Option Value} {rest : (Str → Option Value) → List (Addr × Obj) → Prop} {a b I lr : Addr} {ao bo it o : Obj} {g : Addr × Obj} {T : List (Addr × Obj)}
    (F : Fr h₀ L h' m') (N : News h₀ L h' ((a, ao) :: (b, bo) :: (I, it) :: g :: (lr, o) :: T)) (h1 : @Ne Nat a I) (h2 : @Ne Nat b I) (h3 : @Ne Nat lr I) (h4 : ∀ p ∈ T, @Ne Nat p.1 I) (h5 : @Ne Nat a lr) (h6 : @Ne Nat b lr)
    (k : ∀ R', (a, ao) ∈ R' → (b, bo) ∈ R' → (∀ p ∈ R', @Ne Nat p.1 I) → (∀ p ∈ R', @Ne Nat p.1 lr) → rest m' ((lr, o) :: (R' ++ T))) : UnrEndW h₀ L s₁ [(I, it)] rest { s₁ with heap := h', toks := tk } :=
  turn_end F (fun p hp => N p (by
    simp only [List.mem_cons] at hp ⊢
    rcases hp with h | h | h | h | h <;> simp only [h, true_or, or_true])) h1 h2 h3 h4 h5 h6 k
theorem half_n {i z x : Int} (H : HalfAt i z x) : 3600 * i + 1800 * z = 3600 * 0 + 1800 * x := by
  have := H.out
  omega
section
variable {w : World} {mean : ExcName → Option Value} {mg mb : Str → Option Value} {loose : List Str} {dp un : Nat} {gd : Option (List Code)} {cn : Str} {cs : Scope} {a : Addr} {ccd : Value} {cl : List (Str × Addr)} {outer : List Env} {A₀ : Around} {base h₀ : Heap} {L : Addr} {m : Str → Option Value} {s : Shared} {Q E : Value → Shared → Prop} {news : List (Addr × Obj)}
theorem hls_in {x : Int} {t1 t2 t3 : Tok} (B : Below A₀ base outer h₀) (F : Fr h₀ L s.heap m) (X : (hd.heap_39 w.params).In h₀) (N : News h₀ L s.heap news) (T : Top hd.view_39 loose mean mg mb h₀) (hk : cs.kind = .function)
    (hdp : dp + 3 < recursionLimit) (hun : un + 30 < cLine)
    (hret : ∀ (D : Addr) (t1 t2 t3 : Tok) (n : Nat) (h' : Heap) (tk' : Nat), Fr h₀ L h' m → News h₀ L h' ((D, ({ cls := .type "tuple", data := .seq #[.float (inR x) t1, .float (inG x) t2, .float (inB x) t3] n } : Obj)) :: news) → (∀ p ∈ news, p.1 < D) → Q (.ref D) { s with heap := h', toks := tk' }) :
    wpAny (model PySem.Challenge.rw_xg0060_01.row.prog w) (ktrTop dp un gd cn cs L a ccd cl outer) (call (.ref 65) [.float (hueIn (3600 * 0 + 1800 * x)) t1, .float 4602678819172646912 t2, .float 4607182418800017408 t3]) Q E s := by
  unfold inR inG inB at hret
  exact hls_cl B F X N T hk hdp hun hret
theorem rgb_in {x : Int} {t1 t2 t3 : Tok} (H : HueAt x) (B : Below A₀ base outer h₀) (F : Fr h₀ L s.heap m) (X : (hd.heap_39 w.params).In h₀) (N : News h₀ L s.heap news) (T : Top hd.view_39 loose mean mg mb h₀) (hk : cs.kind = .function)
    (hdp : dp + 3 < recursionLimit) (hun : un + 30 < cLine)
    (hret : ∀ (D : Addr) (t : Tok) (x' y : Value) (n : Nat) (h' : Heap) (tk' : Nat), Fr h₀ L h' m → News h₀ L h' ((D, ({ cls := .type "tuple", data := .seq #[.float (hueOf (inR x) (inG x) (inB x)) t, x', y] n } : Obj)) :: news) → (∀ p ∈ news, p.1 < D) → Q (.ref D) { s with heap := h', toks := tk' }) :
    wpAny (model PySem.Challenge.rw_xg0060_01.row.prog w) (ktrTop dp un gd cn cs L a ccd cl outer) (call (.ref 58) [.float (inR x) t1, .float (inG x) t2, .float (inB x) t3]) Q E s :=
  rgb_cl B F X N T hk hdp hun H.ne H.s0 H.r0 H.d0 hret
end
example : True := by
  k_with_none
  (k_with "k_lt" => skip)
  (k_with "k_ne" => (refine neN ?_; (try dsimp only); (first | exact Nat.ne_of_lt (allLt_get (by with_reducible assumption) (by k_mem)) | exact Nat.ne_of_gt (allLt_get (by with_reducible assumption) (by k_mem)) | omega)))
  (k_with "k_mem" => first | exact List.Mem.head _ | (refine' List.Mem.tail _ ?_; k_mem) | with_reducible_and_instances assumption | (refine memL ?_; k_mem) | (refine memR ?_; k_mem))
  (k_with "k_all" => first | with_reducible assumption | exact ne_allLt (by with_reducible assumption) | exact ne_tail (by with_reducible assumption) | exact ne_tail2 (by with_reducible assumption) | refine all_app (by k_all) (by k_all))
  (k_with "k_enter" => (refine' enter_at ?k1Zq ?k2Zq ?k3Zq ?k4Zq ?k5Zq ?kAZq ?kFZq ?kKZq ?k6Zq ?k7Zq ?k8Zq ?k9Zq ?kBZq ?_ ?c2Zq ?c3Zq ?c4Zq ?c5Zq; (case kAZq => exact rfl); (case kFZq => exact rfl); (case kKZq => assumption); (case k1Zq => k_asm); (case k2Zq => k_asm); (case k3Zq => k_asm); (case k4Zq => k_asm); (case k5Zq => k_asm); (case k6Zq => k_is); (case k7Zq => k_is); (case k8Zq => ktr_room); (case k9Zq => exact BindsTo.of_eq rfl); (case c5Zq => decide); (case kBZq => exact locs rfl); (case c2Zq => exact rfl); (case c3Zq => exact rfl); (case c4Zq => exact rfl); k_whole; intro g' L' h' hKp' FG' F' N' B' X' T'; (try dsimp only); (try k_lift B'); (try k_fold)))
  (k_with "call ref" => (k_here; (with_reducible show wpAny _ _ (call (Value.ref 103) _) _ _ _); k_dflt (refine' indent_m ?k1Zq ?k2Zq ?k3Zq ?k4Zq ?k5Zq ?k6Zq ?k7Zq ?m1Zq ?m2Zq ?m3Zq ?m4Zq ?iZq ?lZq ?g1Zq ?g2Zq ?eZq ?_; (case k1Zq => k_asm); (case k2Zq => k_asm); (case k3Zq => k_asm); (case k4Zq => k_asm); (case k5Zq => k_asm); (case k6Zq => first | exact rfl | assumption); (case k7Zq => ktr_room); (case m1Zq => k_mem); (case m2Zq => k_mem); (case m3Zq => k_mem); (case m4Zq => k_mem); (case iZq => with_reducible assumption); (case lZq => with_reducible assumption); (case g1Zq => assumption); (case g2Zq => assumption); (case eZq => with_reducible assumption); k_whole); intro t1' h' tk' F' N'; (try dsimp only at F' N' ⊢); (try k_sweep)))
  (k_with "call ref" => (k_here; (with_reducible show wpAny _ _ (call (Value.ref 65) _) _ _ _); k_dflt (refine' hls_in ?k1Zq ?k2Zq ?k3Zq ?k4Zq ?k5Zq ?k6Zq ?k7Zq ?k8Zq ?_; (case k1Zq => k_asm); (case k2Zq => k_asm); (case k3Zq => k_asm); (case k4Zq => k_asm); (case k5Zq => k_asm); (case k6Zq => first | exact rfl | assumption); (case k7Zq => ktr_room); (case k8Zq => ktr_units); k_whole); intro D' t1' t2' t3' n' h' tk' F' N' l1; (try k_lt l1); (try dsimp only at F' N' ⊢); (try k_sweep)))
  (k_with "call ref" => (k_here; (with_reducible show wpAny _ _ (call (Value.ref 58) _) _ _ _); k_dflt (refine' rgb_in ?k0Zq ?k1Zq ?k2Zq ?k3Zq ?k4Zq ?k5Zq ?k6Zq ?k7Zq ?k8Zq ?_; (case k0Zq => with_reducible assumption); (case k1Zq => k_asm); (case k2Zq => k_asm); (case k3Zq => k_asm); (case k4Zq => k_asm); (case k5Zq => k_asm); (case k6Zq => first | exact rfl | assumption); (case k7Zq => ktr_room); (case k8Zq => ktr_units); k_whole); intro D' t1' x' y' n' h' tk' F' N' l1; (try k_lt l1); (try dsimp only at F' N' ⊢); (try k_sweep)))
  (k_with "binaryOp Div int int" => (k_here; k_dflt (refine' day_div ?k0Zq ?khZq (half_n ?kkZq) ?_; (case kkZq => with_reducible assumption); (case k0Zq => with_reducible assumption); (case khZq => exact rfl)); intro t' k'))
  (k_with "binaryOp Mult float int" => (k_here; k_dflt (refine mul_48 ?_); intro t' k'))
  (k_with "binaryOp Mult int float" => (k_here; k_dflt (refine eight_mul ?_); intro t' k'))
  (k_with "binaryOp Mod int int" => (k_here; k_dflt (refine mod_clock (by with_reducible assumption) ?_); intro t' k'))
  (k_with "call builtin:round" => (k_here; (with_reducible show wpAny _ _ (call _ [Value.float (Float64.mul (Float64.ofInt 8) (inR _)) _]) _ _ _); k_dflt (refine' round_at (HueAt.fR ?k0Zq) (HueAt.vR ?k0Zq) ?khZq ?_; (case k0Zq => with_reducible assumption); (case khZq => exact rfl)); intro t' k'))
  (k_with "call builtin:round" => (k_here; (with_reducible show wpAny _ _ (call _ [Value.float (Float64.mul (Float64.ofInt 8) (inG _)) _]) _ _ _); k_dflt (refine' round_at (HueAt.fG ?k0Zq) (HueAt.vG ?k0Zq) ?khZq ?_; (case k0Zq => with_reducible assumption); (case khZq => exact rfl)); intro t' k'))
  (k_with "call builtin:round" => (k_here; (with_reducible show wpAny _ _ (call _ [Value.float (Float64.mul (Float64.ofInt 8) (inB _)) _]) _ _ _); k_dflt (refine' round_at (HueAt.fB ?k0Zq) (HueAt.vB ?k0Zq) ?khZq ?_; (case k0Zq => with_reducible assumption); (case khZq => exact rfl)); intro t' k'))
  (k_with "call builtin:round" => (k_here; k_dflt (refine' round_hue ?k0Zq ?khZq ?_; (case k0Zq => with_reducible assumption); (case khZq => exact rfl)); intro K' t' k' c'))
  (k_with "exec If Compare" => (k_here; (with_reducible show wpAny _ _ (exec (PySem.Stmt.If (PySem.Expr.Compare _ _ [PySem.Expr.List _ _] _) _ _ _) _) _ _ _); (fail_if_success with_reducible show wpAny _ _ _ (JoinPost _ _ _ _ _ _ _) _ _); (rename Fr _ _ _ _ => wF'); (rename News _ _ _ _ => wN'); k_dflt (refine' if_join wF' wN' ?hcZq ?_ ?_; (case hcZq => exact rfl)); (all_goals first | (clear wF' wN'; intro t' h' tk' F' N'; (try k_fold)) | skip)))
  (k_with "JoinPost" => (k_dflt (dsimp only [JoinPost])))
  (k_with "JoinEnd" => (refine' join_end ?fZq ?nZq ?rZq ?mZq ?eZq; (case fZq => assumption); (case nZq => k_dflt (first | assumption | exact news_tail (by assumption))); (case rZq => k_dflt (exact rfl)); (case mZq => (intro z hz; first | rfl | simp only [if_neg hz])); (case eZq => first | exact FirstOk.out (by with_reducible assumption) | exact StepOk.tt (by with_reducible assumption) (by assumption) (by assumption) | exact StepOk.tf (by with_reducible assumption) (by assumption) (by assumption) | exact StepOk.ft (by with_reducible assumption) (by assumption) (by assumption) | exact StepOk.ff (by with_reducible assumption) (by assumption) (by assumption))))
  (k_with "exec For Tuple Name cons nil" => (k_here; (fail_if_success (rename Gen _ _ _ _ _ _ _ _ _ _ _ => gX)); (refine' with_gen (by with_reducible assumption) (by with_reducible assumption) ?_ (fun G' => ?_)); (all_goals (try (unfold Gen; intros)))))
  (k_with "exec For Tuple Name cons nil" => (k_here; (with_reducible rename Gen _ _ _ _ _ _ _ _ _ _ _ => gX); (rename Fr _ _ _ _ => lF'); (with_unfolding_all refine' For_turns lF' ?_; k_whole)))
  (k_with "pyIter ref" => (k_here; (rename Fr _ _ _ _ => lF'); (rename News _ _ _ _ => lN'); (with_unfolding_all refine iter_listTurns (lo := listOf [Value.ref T0, .ref T1, .ref T2, .ref T3].toArray n) (vs := [Value.ref T0, .ref T1, .ref T2, .ref T3]) (by rfl) lF' lN' (by k_mem) (by rfl) (by rfl) ?_); clear lF'; intro i' l1; (try k_lt l1)))
  (k_with "UnrEndW" => ((rename Fr _ _ _ _ => lF'); (rename News _ _ _ _ => lN'); (first | refine turn_end1 lF' lN' (by k_ne) (by k_ne) (by k_ne) (by k_all) (by k_ne) (by k_ne) ?_ | refine turn_end lF' lN' (by k_ne) (by k_ne) (by k_ne) (by k_all) (by k_ne) (by k_ne) ?_); intro R' ra' rb' n1' n2'; refine And.intro (And.intro (by k_mem) trivial) ?_))
  (k_with "execs cons" => (k_here; (rename Gen _ _ _ _ _ _ _ _ _ _ _ => gX); (with_reducible show wpAny _ _ (execs [_, _, _, _, _, _, _] _) _ _ _); k_dflt (refine' gen_use gX ?FZq ?NZq ?hsZq ?m1Zq ?m2Zq ?m3Zq ?m4Zq ?iZq ?lZq ?h1Zq ?h2Zq ?h3Zq ?_; (case FZq => k_asm); (case NZq => k_asm); (case hsZq => exact rfl); (case m1Zq => k_mem); (case m2Zq => k_mem); (case m3Zq => k_mem); (case m4Zq => k_mem); (case iZq => with_reducible assumption); (case lZq => with_reducible assumption); (case h1Zq => with_reducible assumption); (case h2Zq => with_reducible assumption); (case h3Zq => with_reducible assumption); k_whole); intros; (try k_sweep)))
  (k_with "execs" => (k_here; k_dflt (refine' gen_fin ?KZq ?FZq ?NZq; (case KZq => with_reducible assumption); (case FZq => k_asm); (case NZq => k_asm))))
  trivial
section
variable {w : World} {mean : ExcName → Option Value} {mg mb : Str → Option Value} {loose : List Str} {dp un : Nat} {gd : Option (List Code)} {cn : Str} {cs : Scope} {a : Addr} {ccd : Value} {cl : List (Str × Addr)} {outer : List Env} {A₀ : Around} {base h₀ : Heap} {L : Addr} {m : Str → Option Value} {s : Shared} {Q E : Value → Shared → Prop} {news : List (Addr × Obj)}
theorem diary_cl {way size z0 z1 z2 z3 i0 i1 i2 i3 x0 x1 x2 x3 : Int} {p0 p1 p2 p3 : List Nat} {u1 u2 : Tok} {D T0 X0 d0 e0 f0 T1 X1 d1 e1 f1 T2 X2 d2 e2 f2 T3 X3 d3 e3 f3 : Addr} {n : Nat}
    (B : Below A₀ base outer h₀) (F : Fr h₀ L s.heap m) (X : (hd.heap_39 w.params).In h₀) (ND : News h₀ L s.heap [(D, listOf [Value.ref T0, .ref T1, .ref T2, .ref T3].toArray n)])
    (S0 : StopAt w.params h₀ L s.heap T0 X0 d0 e0 f0 z0 p0) (S1 : StopAt w.params h₀ L s.heap T1 X1 d1 e1 f1 z1 p1) (S2 : StopAt w.params h₀ L s.heap T2 X2 d2 e2 f2 z2 p2) (S3 : StopAt w.params h₀ L s.heap T3 X3 d3 e3 f3 z3 p3)
    (T : Top hd.view_39 loose mean mg mb h₀) (hk : cs.kind = .function) (hdp : dp + 8 < recursionLimit) (hun : un + 200 < cLine) (hs1 : 1 ≤ size) (hs8 : size ≤ 8) (hw1 : -1 ≤ way) (hw2 : way ≤ 1)
    (a0 : HourAt (wsFold p0).cnt (wsFold p0).b (wsFold p0).nt size i0) (b0 : HalfAt i0 z0 x0) (c0 : HueAt x0) (a1 : HourAt (wsFold p1).cnt (wsFold p1).b (wsFold p1).nt size i1) (b1 : HalfAt i1 z1 x1) (c1 : HueAt x1) (a2 : HourAt (wsFold p2).cnt (wsFold p2).b (wsFold p2).nt size i2) (b2 : HalfAt i2 z2 x2) (c2 : HueAt x2) (a3 : HourAt (wsFold p3).cnt (wsFold p3).b (wsFold p3).nt size i3) (b3 : HalfAt i3 z3 x3) (c3 : HueAt x3)
    (k0 : FirstOk z0 x0) (k1 : StepOk way z0 z1 x0 x1) (k2 : StepOk way z1 z2 x1 x2) (k3 : StepOk way z2 z3 x2 x3)
    (hret : ∀ (D' : Addr) (h' : Heap) (tk' : Nat), Fr h₀ L h' m → KeptAll s.heap h' → RowsN h₀ L h' D' x0 x1 x2 x3 → Q (.ref D') { s with heap := h', toks := tk' }) :
    wpAny (model PySem.Challenge.rw_xg0060_01.row.prog w) (ktrTop dp un gd cn cs L a ccd cl outer) (call (.ref 171) [.ref D, .int way u1, .int size u2]) Q E s := by
  obtain ⟨t01, t02, t03, t04, t05, t06, t07, t08, t09, rv0, sv0, its0, n01, n02, n03, NS0, hI0, hL0⟩ := S0
  obtain ⟨t11, t12, t13, t14, t15, t16, t17, t18, t19, rv1, sv1, its1, n11, n12, n13, NS1, hI1, hL1⟩ := S1
  obtain ⟨t21, t22, t23, t24, t25, t26, t27, t28, t29, rv2, sv2, its2, n21, n22, n23, NS2, hI2, hL2⟩ := S2
  obtain ⟨t31, t32, t33, t34, t35, t36, t37, t38, t39, rv3, sv3, its3, n31, n32, n33, NS3, hI3, hL3⟩ := S3
  obtain ⟨R, NR, r, r0, r1, r2, r3⟩ := news_open ND NS0 NS1 NS2 NS3
  have mD := r _ (.head _)
  obtain ⟨m01, m02, m03, m04, m05⟩ := five r0
  obtain ⟨m11, m12, m13, m14, m15⟩ := five r1
  obtain ⟨m21, m22, m23, m24, m25⟩ := five r2
  obtain ⟨m31, m32, m33, m34, m35⟩ := five r3
  clear r r0 r1 r2 r3 ND NS0 NS1 NS2 NS3
  have sM : SMark size := ⟨⟩
  refine wpAny_call ?_
  k_dflt k_enter
  k_steps
  all_goals (
    (rename Fr _ _ _ _ => zF)
    (rename News _ _ _ _ => zN)
    refine hret _ _ _ zF (keep_all (by assumption) (by assumption) NR zN ?_) ?_
    · (intro q hq; repeat (first | exact hq | refine List.Mem.tail _ ?_ | refine memR ?_))
    · exact RowsN.four zN (by k_mem) rfl (by k_mem) rfl (by k_mem) rfl (by k_mem) rfl (by k_mem) rfl (by k_mem) rfl (by k_mem) rfl (by k_mem) rfl (by k_mem) rfl)
end
end Mine
end
section
open PySem PySem.W PyProof.Rows PySem.Calls
set_option maxRecDepth 100000
set_option maxHeartbeats 16000000
namespace Mine
theorem step_ok {way z c i i' : Int} (hz1 : -24 ≤ z) (hz2 : z < 24) (hc0 : 0 ≤ c) (hc1 : c ≤ 8) (hw : way = 1 ∨ way = -1) (h0 : 0 ≤ 2 * (i' - i) + 2 * way * c) (h1 : 2 * (i' - i) + 2 * way * c ≤ 47) :
    StepOk way z (zstep way z c) (2 * i + z) (2 * i' + zstep way z c) := by
  unfold zstep
  rcases hw with rfl | rfl
  all_goals (constructor <;> (simp only [Int.fmod_eq_emod_of_nonneg _ (by decide : (0 : Int) ≤ 48), Int.fdiv_eq_ediv_of_nonneg _ (by decide : (0 : Int) ≤ 48)]; omega))
theorem first_ok {z : Int} : FirstOk z (2 * 0 + z) := ⟨by
  rw [Int.fdiv_eq_ediv_of_nonneg _ (by decide : (0 : Int) ≤ 48), Int.fdiv_eq_ediv_of_nonneg _ (by decide : (0 : Int) ≤ 86400)]; omega⟩
noncomputable def hourOk (s h1 h2 h3 : Nat) : Bool :=
  let w (p : List Nat) := indVal (wsFold p).cnt (wsFold p).b (wsFold p).nt (s : Int)
  let i1 := roundUp (0 + (h1 : Int) + 1) s
  let i2 := roundUp (i1 + h2 + 1) s
  let i3 := roundUp (i2 + h3 + 1) s
  w (grow [] h1) == i1 && w (grow (grow [] h1) h2) == i2 && w (grow (grow (grow [] h1) h2) h3) == i3 &&
  decide (i1 - 0 ≤ 14) && decide (i2 - i1 ≤ 14) && decide (i3 - i2 ≤ 14)
theorem hourOk_a0 : ((List.range 8).take 1).all (fun s => (List.range 8).all fun h1 => (List.range 8).all fun h2 => (List.range 8).all fun h3 => hourOk (s + 1) h1 h2 h3) = true := by decide +kernel
theorem hourOk_a1 : (((List.range 8).drop 1).take 1).all (fun s => (List.range 8).all fun h1 => (List.range 8).all fun h2 => (List.range 8).all fun h3 => hourOk (s + 1) h1 h2 h3) = true := by decide +kernel
theorem hourOk_a2 : ((((List.range 8).drop 1).drop 1).take 1).all (fun s => (List.range 8).all fun h1 => (List.range 8).all fun h2 => (List.range 8).all fun h3 => hourOk (s + 1) h1 h2 h3) = true := by decide +kernel
theorem hourOk_a3 : (((((List.range 8).drop 1).drop 1).drop 1).take 1).all (fun s => (List.range 8).all fun h1 => (List.range 8).all fun h2 => (List.range 8).all fun h3 => hourOk (s + 1) h1 h2 h3) = true := by decide +kernel
theorem hourOk_a4 : ((((((List.range 8).drop 1).drop 1).drop 1).drop 1).take 1).all (fun s => (List.range 8).all fun h1 => (List.range 8).all fun h2 => (List.range 8).all fun h3 => hourOk (s + 1) h1 h2 h3) = true := by decide +kernel
theorem hourOk_a5 : (((((((List.range 8).drop 1).drop 1).drop 1).drop 1).drop 1).take 1).all (fun s => (List.range 8).all fun h1 => (List.range 8).all fun h2 => (List.range 8).all fun h3 => hourOk (s + 1) h1 h2 h3) = true := by decide +kernel
theorem hourOk_a6 : ((((((((List.range 8).drop 1).drop 1).drop 1).drop 1).drop 1).drop 1).take 1).all (fun s => (List.range 8).all fun h1 => (List.range 8).all fun h2 => (List.range 8).all fun h3 => hourOk (s + 1) h1 h2 h3) = true := by decide +kernel
theorem hourOk_a7 : ((((((((List.range 8).drop 1).drop 1).drop 1).drop 1).drop 1).drop 1).drop 1).all (fun s => (List.range 8).all fun h1 => (List.range 8).all fun h2 => (List.range 8).all fun h3 => hourOk (s + 1) h1 h2 h3) = true := by decide +kernel
theorem hourOk_all : (List.range 8).all (fun s => (List.range 8).all fun h1 => (List.range 8).all fun h2 => (List.range 8).all fun h3 => hourOk (s + 1) h1 h2 h3) = true :=
  all_cut 1 hourOk_a0 (all_cut 1 hourOk_a1 (all_cut 1 hourOk_a2 (all_cut 1 hourOk_a3 (all_cut 1 hourOk_a4 (all_cut 1 hourOk_a5 (all_cut 1 hourOk_a6 (hourOk_a7)))))))
noncomputable def wsEq (p q : List Nat) : Bool := decide ((wsFold p).cnt = (wsFold q).cnt) && decide ((wsFold p).b = (wsFold q).b)
noncomputable def longOf (p : List Nat) : Int := if (wsFold p).b > ((wsFold p).cnt.length : Int) - 1 then (wsFold p).b else ((wsFold p).cnt.length : Int) - 1
noncomputable def eqOk (h1 h2 h3 : Nat) : Bool :=
  wsEq (grow [] h1) (grow [] h3) == decide ((h1 : Int) = h3) && wsEq (grow (grow [] h1) h2) (grow (grow [] h3) h2) == decide ((h1 : Int) = h3) &&
  wsEq (grow (grow (grow [] h1) h2) h3) (grow (grow (grow [] h3) h2) h1) &&
  longOf (grow (grow (grow [] h1) h2) h3) == max (h1 : Int) (max h2 h3)
theorem eqOk_all : (List.range 8).all (fun h1 => (List.range 8).all fun h2 => (List.range 8).all fun h3 => eqOk h1 h2 h3) = true := by decide +kernel
structure Legs3 (size h1 h2 h3 i1 i2 i3 : Int) : Prop where
  a1 : HourAt (wsFold (grow [] h1)).cnt (wsFold (grow [] h1)).b (wsFold (grow [] h1)).nt size i1
  a2 : HourAt (wsFold (grow (grow [] h1) h2)).cnt (wsFold (grow (grow [] h1) h2)).b (wsFold (grow (grow [] h1) h2)).nt size i2
  a3 : HourAt (wsFold (grow (grow (grow [] h1) h2) h3)).cnt (wsFold (grow (grow (grow [] h1) h2) h3)).b (wsFold (grow (grow (grow [] h1) h2) h3)).nt size i3
  b1 : h1 + 1 ≤ i1 ∧ i1 ≤ 14
  b2 : h2 + 1 ≤ i2 - i1 ∧ i2 - i1 ≤ 14
  b3 : h3 + 1 ≤ i3 - i2 ∧ i3 - i2 ≤ 14
theorem nat_of {h : Int} (h0 : 0 ≤ h) : ∃ k : Nat, h = (k : Int) := ⟨h.toNat, by omega⟩
theorem legs3 {size h1 h2 h3 i1 i2 i3 : Int} (s1 : 1 ≤ size) (s8 : size ≤ 8) (g1 : 0 ≤ h1) (g2 : h1 ≤ 7) (g3 : 0 ≤ h2) (g4 : h2 ≤ 7) (g5 : 0 ≤ h3) (g6 : h3 ≤ 7)
    (e1 : i1 = roundUp (0 + h1 + 1) size) (e2 : i2 = roundUp (i1 + h2 + 1) size) (e3 : i3 = roundUp (i2 + h3 + 1) size) : Legs3 size h1 h2 h3 i1 i2 i3 := by
  have r1 := roundUp_ge (a := 0 + h1 + 1) s1
  have r2 := roundUp_ge (a := i1 + h2 + 1) s1
  have r3 := roundUp_ge (a := i2 + h3 + 1) s1
  rw [← e1] at r1
  rw [← e2] at r2
  rw [← e3] at r3
  obtain ⟨k1, rfl⟩ := nat_of g1
  obtain ⟨k2, rfl⟩ := nat_of g3
  obtain ⟨k3, rfl⟩ := nat_of g5
  obtain ⟨s, es⟩ := nat_of (h := size - 1) (by omega)
  have es' : size = ((s + 1 : Nat) : Int) := by omega
  subst es'
  have h := List.all_eq_true.mp (List.all_eq_true.mp (List.all_eq_true.mp (List.all_eq_true.mp hourOk_all s (List.mem_range.mpr (by omega))) k1 (List.mem_range.mpr (by omega))) k2 (List.mem_range.mpr (by omega))) k3 (List.mem_range.mpr (by omega))
  unfold hourOk at h
  simp only [Bool.and_eq_true, beq_iff_eq, decide_eq_true_eq] at h
  rw [← e1, ← e2, ← e3] at h
  obtain ⟨⟨⟨⟨⟨w1, w2⟩, w3⟩, b1⟩, b2⟩, b3⟩ := h
  exact ⟨⟨w1⟩, ⟨w2⟩, ⟨w3⟩, ⟨by omega, by omega⟩, ⟨by omega, by omega⟩, ⟨by omega, by omega⟩⟩
theorem eqs {h1 h2 h3 : Int} (g1 : 0 ≤ h1) (g2 : h1 ≤ 7) (g3 : 0 ≤ h2) (g4 : h2 ≤ 7) (g5 : 0 ≤ h3) (g6 : h3 ≤ 7) :
    wsEq (grow [] h1) (grow [] h3) = decide (h1 = h3) ∧ wsEq (grow (grow [] h1) h2) (grow (grow [] h3) h2) = decide (h1 = h3) ∧
    wsEq (grow (grow (grow [] h1) h2) h3) (grow (grow (grow [] h3) h2) h1) = true ∧ longOf (grow (grow (grow [] h1) h2) h3) = max h1 (max h2 h3) := by
  obtain ⟨k1, rfl⟩ := nat_of g1
  obtain ⟨k2, rfl⟩ := nat_of g3
  obtain ⟨k3, rfl⟩ := nat_of g5
  have h := List.all_eq_true.mp (List.all_eq_true.mp (List.all_eq_true.mp eqOk_all k1 (List.mem_range.mpr (by omega))) k2 (List.mem_range.mpr (by omega))) k3 (List.mem_range.mpr (by omega))
  unfold eqOk at h
  simp only [Bool.and_eq_true, beq_iff_eq] at h
  exact ⟨h.1.1.1, h.1.1.2, h.1.2, h.2⟩
end Mine
end
section
open PySem PySem.W PyProof.Rows PySem.Calls PyProof.V
set_option maxRecDepth 100000
set_option maxHeartbeats 16000000
namespace Mine
theorem fmod8_ne {x : Int} : Int.fmod x 8 + 2 ≠ 0 := by
  rw [Int.fmod_eq_emod_of_nonneg _ (by decide)]
  omega
section
variable {prog : Program} {w : World} {A : Around} {E : Value → Shared → Prop} {s : Shared} {h₀ : Heap} {L l : Addr} {m : Str → Option Value} {news : List (Addr × Obj)} {value slice : Expr} {vl vu vk : Value} {lo hi st : Option Int} {vs : List Value} {ns : List Int} {ops : List Value} {Q : Value → Shared → Prop}
/-- a slice of a list of ints -/
theorem slice3_ints (F : Fr h₀ L s.heap m) (N : News h₀ L s.heap news) (hl : s.heap.IsList l vs.toArray) (hi' : IntsAre vs ns) (pl : IsPart vl lo) (pu : IsPart vu hi) (pk : IsPart vk st) (h0 : st ≠ some 0)
    (h : ∀ D ws ms h', Fr h₀ L h' m → News h₀ L h' ((D, listOf (List.toArray ws) 0) :: news) → (∀ p ∈ news, p.1 < D) → IntsAre ws ms → Q (.ref D) { s with heap := h' })
    (hs : subscripted slice false (.ref l) (.ref s.heap.objs.size) = operate ops (getItem (.ref l) (.ref s.heap.objs.size))) (ht : ∀ r, letTemporaryGo value (.ref l) r = pure ()) (hz : vs.toArray.size ≤ sizeLine) :
    wpAny (model prog w) A (subscriptTail value slice (.ref l) (.ref s.heap.objs.size)) Q E { s with heap := s.heap.push { cls := .type "slice", data := .fields #[vl, vu, vk] } } := by
  refine kmk_slice3_lit F N hl pl pu pk h0 rfl (fun D h' F' N' l1 => h D _ _ h' F' N' l1 (hi'.pick lo hi st)) hs ht hz
end
end Mine
end
section
open PySem PySem.W PyProof.Rows PySem.Calls
set_option maxRecDepth 100000
set_option maxHeartbeats 16000000
namespace Mine
/-- a leg's hours and the hours of time that it goes -/
structure LegOk (h c : Int) : Prop where
  g1 : 0 ≤ h
  g2 : h ≤ 7
  g3 : 0 ≤ c
  g4 : c ≤ h + 1
structure HrOf (x h : Int) : Prop where
  out : h = Int.fmod x 8
structure CrOf (x c : Int) : Prop where
  out : c = Int.fmod (Int.fdiv x 8) (Int.fmod x 8 + 2)
theorem leg_of {x h c : Int} (H : HrOf x h) (C : CrOf x c) : LegOk h c := by
  have h1 := Int.fmod_eq_emod_of_nonneg x (b := 8) (by decide)
  have h2 := Int.emod_nonneg x (b := 8) (by decide)
  have h3 := Int.emod_lt_of_pos x (b := 8) (by decide)
  have h4 := Int.fmod_eq_emod_of_nonneg (Int.fdiv x 8) (b := Int.fmod x 8 + 2) (by omega)
  have h5 := Int.emod_nonneg (Int.fdiv x 8) (b := Int.fmod x 8 + 2) (by omega)
  have h6 := Int.emod_lt_of_pos (Int.fdiv x 8) (b := Int.fmod x 8 + 2) (by omega)
  have h7 := H.out
  have h8 := C.out
  exact ⟨by omega, by omega, by omega, by omega⟩
theorem HrOf.lo {x h : Int} (H : HrOf x h) : 0 ≤ h ∧ h ≤ 7 := by
  have h1 := Int.fmod_eq_emod_of_nonneg x (b := 8) (by decide)
  have h2 := Int.emod_nonneg x (b := 8) (by decide)
  have h3 := Int.emod_lt_of_pos x (b := 8) (by decide)
  have h7 := H.out
  exact ⟨by omega, by omega⟩
structure HomeOk (z : Int) : Prop where
  lo : -24 ≤ z
  hi : z < 24
theorem home_ok (x : Int) : HomeOk (Int.fmod x 48 - 24) := by
  have h1 := Int.fmod_eq_emod_of_nonneg x (b := 48) (by decide)
  have h2 := Int.emod_nonneg x (b := 48) (by decide)
  have h3 := Int.emod_lt_of_pos x (b := 48) (by decide)
  exact ⟨by omega, by omega⟩
structure SizeOk (z : Int) : Prop where
  lo : 1 ≤ z
  hi : z ≤ 8
theorem size_ok {x h : Int} (H : HrOf x h) : SizeOk (1 + h) := by
  have h1 := H.lo
  exact ⟨by omega, by omega⟩
theorem size_long {x1 x2 x3 h1 h2 h3 : Int} (l1 : HrOf x1 h1) (l2 : HrOf x2 h2) (l3 : HrOf x3 h3) : SizeOk (1 + max h1 (max h2 h3)) :=
  ⟨by have := l1.lo; omega, by have := l1.lo; have := l2.lo; have := l3.lo; omega⟩
section
variable {prog : Program} {w : World} {A : Around} {E : Value → Shared → Prop} {s : Shared} {Q : Value → Shared → Prop}
theorem hours_mod {x : Int} {t u : Tok} (h : ∀ z t tk, HrOf x z → Q (.int z t) { s with toks := tk }) : wpAny (model prog w) A (binaryOp .Mod (.int x t) (.int 8 u)) Q E s :=
  mod_int' (by decide) (h _ _ _ ⟨rfl⟩)
theorem round_mod {x z : Int} {t u : Tok} (H : HrOf x z) (h : ∀ c t tk, CrOf x c → Q (.int c t) { s with toks := tk }) : wpAny (model prog w) A (binaryOp .Mod (.int (Int.fdiv x 8) t) (.int (z + 2) u)) Q E s := by
  have e := H.out
  subst e
  exact mod_int' fmod8_ne (h _ _ _ ⟨rfl⟩)
theorem home_sub {x : Int} {t u : Tok} (h : ∀ z t tk, HomeOk z → Q (.int z t) { s with toks := tk }) : wpAny (model prog w) A (binaryOp .Sub (.int (Int.fmod x 48) t) (.int 24 u)) Q E s :=
  sub_int (h _ _ _ (home_ok x))
theorem size_add {x z : Int} {t u : Tok} (H : HrOf x z) (h : ∀ y t tk, SizeOk y → Q (.int y t) { s with toks := tk }) : wpAny (model prog w) A (binaryOp .Add (.int 1 t) (.int z u)) Q E s :=
  add_int (h _ _ _ (size_ok H))
theorem long_add {x1 x2 x3 h1 h2 h3 : Int} {t u : Tok} (l1 : HrOf x1 h1) (l2 : HrOf x2 h2) (l3 : HrOf x3 h3) (h : ∀ t tk, SizeOk (1 + max h1 (max h2 h3)) → Q (.int (1 + max h1 (max h2 h3)) t) { s with toks := tk }) : wpAny (model prog w) A (binaryOp .Add (.int 1 t) (.int (max h1 (max h2 h3)) u)) Q E s :=
  add_int (h _ _ (size_long l1 l2 l3))
end
structure WayOk (way : Int) : Prop where
  out : way = 1 ∨ way = -1
theorem WayOk.lo {way : Int} (W : WayOk way) : -1 ≤ way := by rcases W.out with rfl | rfl <;> decide
theorem WayOk.hi {way : Int} (W : WayOk way) : way ≤ 1 := by rcases W.out with rfl | rfl <;> decide
theorem way_east : WayOk 1 := ⟨.inl rfl⟩
theorem way_west : WayOk (-1) := ⟨.inr rfl⟩
structure LeadIs (p : List Nat) (its : List Value) (b n nt : Int) : Prop where
  fi : IntsAre its (wsFold p).cnt
  fl : (wsFold p).cnt.length ≤ 100
  eb : (wsFold p).b = b
  en : (wsFold p).n = n
  ent : (wsFold p).nt = nt
structure OffIs (o z : Int) : Prop where
  out : 1800 * z = o
theorem stop_of {P : Params} {h₀ h : Heap} {L T x d e f : Addr} {news : List (Addr × Obj)} {z o b n nt : Int} {p : List Nat} {its : List Value} {t1 t2 t3 t4 t5 t6 t7 t8 t9 : Tok} {rv sv : Value} {n1 n2 n3 : Nat} (N : News h₀ L h news)
    (m1 : (T, tupO [.ref x, .int o t9] n3) ∈ news) (m2 : (x, instObj 134 d) ∈ news) (m3 : (d, wsDict P t1 t2 t3 t4 t5 rv (.int n t6) (.int nt t7) sv e) ∈ news) (m4 : (e, tupO [.ref f, .int b t8] n1) ∈ news) (m5 : (f, tupO its n2) ∈ news)
    (l : LeadIs p its b n nt) (q : OffIs o z) : StopAt P h₀ L h T x d e f z p := by
  obtain ⟨q1⟩ := q
  obtain ⟨l1, l2, l3, l4, l5⟩ := l
  subst q1 l3 l4 l5
  refine ⟨t1, t2, t3, t4, t5, t6, t7, t8, t9, rv, sv, its, n1, n2, n3, fun r hq => ?_, l1, l2⟩
  rcases List.mem_cons.mp hq with rfl | hq
  · exact N _ m1
  rcases List.mem_cons.mp hq with rfl | hq
  · exact N _ m2
  rcases List.mem_cons.mp hq with rfl | hq
  · exact N _ m3
  rcases List.mem_cons.mp hq with rfl | hq
  · exact N _ m4
  rcases List.mem_cons.mp hq with rfl | hq
  · exact N _ m5
  nomatch hq
structure LawX (way size home h1 c1 h2 c2 h3 c3 x1 x2 x3 : Int) : Prop where
  o1 : x1 = 2 * roundUp (0 + h1 + 1) size + zstep way home c1
  o2 : x2 = 2 * roundUp (roundUp (0 + h1 + 1) size + h2 + 1) size + zstep way (zstep way home c1) c2
  o3 : x3 = 2 * roundUp (roundUp (roundUp (0 + h1 + 1) size + h2 + 1) size + h3 + 1) size + zstep way (zstep way (zstep way home c1) c2) c3
theorem hour_zero {size : Int} (h : 1 ≤ size) : HourAt (wsFold []).cnt (wsFold []).b (wsFold []).nt size 0 := by
  constructor
  show indVal [] 0 0 size = 0
  unfold indVal
  have e : (((([] : List Int).length : Int)) - size).toNat = 0 := by
    show ((0 : Int) - size).toNat = 0
    omega
  rw [e]
  show 0 + size * (0 + 0) = 0
  simp
structure EqIs (p q : List Nat) (v : Bool) : Prop where
  out : wsEq p q = v
structure LongIs (p : List Nat) (v : Int) : Prop where
  out : longOf p = v
structure Facts (h1 h2 h3 : Int) : Prop where
  e1 : EqIs (grow [] h1) (grow [] h3) (decide (h1 = h3))
  e2 : EqIs (grow (grow [] h1) h2) (grow (grow [] h3) h2) (decide (h1 = h3))
  e3 : EqIs (grow (grow (grow [] h1) h2) h3) (grow (grow (grow [] h3) h2) h1) true
  lo : LongIs (grow (grow (grow [] h1) h2) h3) (max h1 (max h2 h3))
theorem facts {h1 c1 h2 c2 h3 c3 : Int} (l1 : LegOk h1 c1) (l2 : LegOk h2 c2) (l3 : LegOk h3 c3) : Facts h1 h2 h3 := by
  obtain ⟨a, b, c, d⟩ := eqs l1.g1 l1.g2 l2.g1 l2.g2 l3.g1 l3.g2
  exact ⟨⟨a⟩, ⟨b⟩, ⟨c⟩, ⟨d⟩⟩
structure Ways (way size home h1 c1 h2 c2 h3 c3 i1 i2 i3 x1 x2 x3 : Int) : Prop where
  a1 : HourAt (wsFold (grow [] h1)).cnt (wsFold (grow [] h1)).b (wsFold (grow [] h1)).nt size i1
  a2 : HourAt (wsFold (grow (grow [] h1) h2)).cnt (wsFold (grow (grow [] h1) h2)).b (wsFold (grow (grow [] h1) h2)).nt size i2
  a3 : HourAt (wsFold (grow (grow (grow [] h1) h2) h3)).cnt (wsFold (grow (grow (grow [] h1) h2) h3)).b (wsFold (grow (grow (grow [] h1) h2) h3)).nt size i3
  b0 : HalfAt 0 home home
  b1 : HalfAt i1 (zstep way home c1) x1
  b2 : HalfAt i2 (zstep way (zstep way home c1) c2) x2
  b3 : HalfAt i3 (zstep way (zstep way (zstep way home c1) c2) c3) x3
  u0 : HueAt home
  u1 : HueAt x1
  u2 : HueAt x2
  u3 : HueAt x3
  k0 : FirstOk home home
  k1 : StepOk way home (zstep way home c1) home x1
  k2 : StepOk way (zstep way home c1) (zstep way (zstep way home c1) c2) x1 x2
  k3 : StepOk way (zstep way (zstep way home c1) c2) (zstep way (zstep way (zstep way home c1) c2) c3) x2 x3
theorem way_span {way d h c : Int} (W : WayOk way) (l : LegOk h c) (b : h + 1 ≤ d ∧ d ≤ 14) : 0 ≤ 2 * d + 2 * way * c ∧ 2 * d + 2 * way * c ≤ 47 := by
  obtain ⟨g1, g2, g3, g4⟩ := l
  obtain ⟨b1, b2⟩ := b
  rcases W.out with rfl | rfl
  · constructor <;> omega
  · constructor <;> omega
theorem ways {way size home h1 c1 h2 c2 h3 c3 i1 i2 i3 x1 x2 x3 : Int} (W : WayOk way) (Z : SizeOk size) (H : HomeOk home) (l1 : LegOk h1 c1) (l2 : LegOk h2 c2) (l3 : LegOk h3 c3)
    (e1 : i1 = roundUp (0 + h1 + 1) size) (e2 : i2 = roundUp (i1 + h2 + 1) size) (e3 : i3 = roundUp (i2 + h3 + 1) size)
    (q1 : x1 = 2 * i1 + zstep way home c1) (q2 : x2 = 2 * i2 + zstep way (zstep way home c1) c2) (q3 : x3 = 2 * i3 + zstep way (zstep way (zstep way home c1) c2) c3) :
    Ways way size home h1 c1 h2 c2 h3 c3 i1 i2 i3 x1 x2 x3 := by
  have R := legs3 Z.lo Z.hi l1.g1 l1.g2 l2.g1 l2.g2 l3.g1 l3.g2 e1 e2 e3
  have y1 := zstep_lo (way := way) (z := home) (c := c1)
  have y1' := zstep_hi (way := way) (z := home) (c := c1)
  have y2 := zstep_lo (way := way) (z := zstep way home c1) (c := c2)
  have y2' := zstep_hi (way := way) (z := zstep way home c1) (c := c2)
  have y3 := zstep_lo (way := way) (z := zstep way (zstep way home c1) c2) (c := c3)
  have y3' := zstep_hi (way := way) (z := zstep way (zstep way home c1) c2) (c := c3)
  have b1 := R.b1
  have b2 := R.b2
  have b3 := R.b3
  have H1 := H.lo
  have H2 := H.hi
  have s1 := way_span W l1 b1
  have s2 := way_span W l2 b2
  have s3 := way_span W l3 b3
  have g1 := l1.g1
  have g2 := l2.g1
  have g3 := l3.g1
  have c18 : 0 ≤ c1 ∧ c1 ≤ 8 := ⟨l1.g3, by have := l1.g4; have := l1.g2; omega⟩
  have c28 : 0 ≤ c2 ∧ c2 ≤ 8 := ⟨l2.g3, by have := l2.g4; have := l2.g2; omega⟩
  have c38 : 0 ≤ c3 ∧ c3 ≤ 8 := ⟨l3.g3, by have := l3.g4; have := l3.g2; omega⟩
  have f0 := first_ok (z := home)
  have ee : 2 * 0 + home = home := by omega
  have t1 := step_ok (i := 0) (i' := i1) H1 H2 c18.1 c18.2 W.out (by simpa using s1.1) (by simpa using s1.2)
  have t2 := step_ok (i := i1) (i' := i2) y1 y1' c28.1 c28.2 W.out s2.1 s2.2
  have t3 := step_ok (i := i2) (i' := i3) y2 y2' c38.1 c38.2 W.out s3.1 s3.2
  rw [ee] at f0 t1
  rw [← q1] at t1 t2
  rw [← q2] at t2 t3
  rw [← q3] at t3
  exact ⟨R.a1, R.a2, R.a3, ⟨ee⟩, ⟨q1.symm⟩, ⟨q2.symm⟩, ⟨q3.symm⟩, hueAt (by omega) (by omega), hueAt (by omega) (by omega), hueAt (by omega) (by omega), hueAt (by omega) (by omega), f0, t1, t2, t3⟩
section
variable {w : World} {mean : ExcName → Option Value} {mg mb : Str → Option Value} {loose : List Str} {dp un : Nat} {gd : Option (List Code)} {cn : Str} {cs : Scope} {a : Addr} {ccd : Value} {cl : List (Str × Addr)} {outer : List Env} {A₀ : Around} {base h₀ : Heap} {L : Addr} {m : Str → Option Value} {s : Shared} {Q E : Value → Shared → Prop} {news : List (Addr × Obj)}
theorem legs_news {l a1 a2 a3 : Addr} {n n1 n2 n3 : Nat} {h1 c1 h2 c2 h3 c3 : Int} {t1 t2 t3 t4 t5 t6 : Tok} {h : Heap} (N : News h₀ L h news)
    (m0 : (l, listOf [Value.ref a1, .ref a2, .ref a3].toArray n) ∈ news) (m1 : (a1, tupO [.int h1 t1, .int c1 t2] n1) ∈ news) (m2 : (a2, tupO [.int h2 t3, .int c2 t4] n2) ∈ news) (m3 : (a3, tupO [.int h3 t5, .int c3 t6] n3) ∈ news) :
    News h₀ L h ([(l, listOf [Value.ref a1, .ref a2, .ref a3].toArray n), (a1, tupO [.int h1 t1, .int c1 t2] n1), (a2, tupO [.int h2 t3, .int c2 t4] n2), (a3, tupO [.int h3 t5, .int c3 t6] n3)] ++ []) := fun q hq => by
  rcases List.mem_cons.mp hq with rfl | hq
  · exact N _ m0
  rcases List.mem_cons.mp hq with rfl | hq
  · exact N _ m1
  rcases List.mem_cons.mp hq with rfl | hq
  · exact N _ m2
  rcases List.mem_cons.mp hq with rfl | hq
  · exact N _ m3
  nomatch hq
theorem stops_law {home way h1 h2 h3 c1 c2 c3 : Int} {u1 u2 t1 t2 t3 t4 t5 t6 : Tok} {l a1 a2 a3 : Addr} {n n1 n2 n3 : Nat}
    (B : Below A₀ base outer h₀) (F : Fr h₀ L s.heap m) (X : (hd.heap_39 w.params).In h₀) (N : News h₀ L s.heap news) (T : Top hd.view_39 loose mean mg mb h₀) (hk : cs.kind = .function)
    (hdp : dp + 8 < recursionLimit) (hun : un + 200 < cLine)
    (m0 : (l, listOf [Value.ref a1, .ref a2, .ref a3].toArray n) ∈ news) (m1 : (a1, tupO [.int h1 t1, .int c1 t2] n1) ∈ news) (m2 : (a2, tupO [.int h2 t3, .int c2 t4] n2) ∈ news) (m3 : (a3, tupO [.int h3 t5, .int c3 t6] n3) ∈ news)
    (W : WayOk way) (H : HomeOk home) (l1 : LegOk h1 c1) (l2 : LegOk h2 c2) (l3 : LegOk h3 c3)
    (hret : ∀ (D T0 x0 d0 e0 f0 T1 x1 d1 e1 f1 T2 x2 d2 e2 f2 T3 x3 d3 e3 f3 : Addr) (n : Nat) (t01 t02 t03 t04 t05 t06 t07 t08 t09 t11 t12 t13 t14 t15 t16 t17 t18 t19 t21 t22 t23 t24 t25 t26 t27 t28 t29 t31 t32 t33 t34 t35 t36 t37 t38 t39 : Tok) (rv0 sv0 rv1 sv1 rv2 sv2 rv3 sv3 : Value) (its0 its1 its2 its3 : List Value) (n01 n02 n03 n11 n12 n13 n21 n22 n23 n31 n32 n33 : Nat) (o0 b0 a0 c0' o1 b1 a1 c1' o2 b2 a2 c2' o3 b3 a3 c3' : Int) (h' : Heap) (tk' : Nat), EqIs (grow [] h1) (grow [] h3) (decide (h1 = h3)) → EqIs (grow (grow [] h1) h2) (grow (grow [] h3) h2) (decide (h1 = h3)) → EqIs (grow (grow (grow [] h1) h2) h3) (grow (grow (grow [] h3) h2) h1) true → LongIs (grow (grow (grow [] h1) h2) h3) (max h1 (max h2 h3)) → Fr h₀ L h' m →
      News h₀ L h' ((D, listOf [Value.ref T0, .ref T1, .ref T2, .ref T3].toArray n) :: (T0, tupO [.ref x0, .int o0 t09] n03) :: (x0, instObj 134 d0) :: (d0, wsDict w.params t01 t02 t03 t04 t05 rv0 (.int a0 t06) (.int c0' t07) sv0 e0) :: (e0, tupO [.ref f0, .int b0 t08] n01) :: (f0, tupO its0 n02) :: (T1, tupO [.ref x1, .int o1 t19] n13) :: (x1, instObj 134 d1) :: (d1, wsDict w.params t11 t12 t13 t14 t15 rv1 (.int a1 t16) (.int c1' t17) sv1 e1) :: (e1, tupO [.ref f1, .int b1 t18] n11) :: (f1, tupO its1 n12) :: (T2, tupO [.ref x2, .int o2 t29] n23) :: (x2, instObj 134 d2) :: (d2, wsDict w.params t21 t22 t23 t24 t25 rv2 (.int a2 t26) (.int c2' t27) sv2 e2) :: (e2, tupO [.ref f2, .int b2 t28] n21) :: (f2, tupO its2 n22) :: (T3, tupO [.ref x3, .int o3 t39] n33) :: (x3, instObj 134 d3) :: (d3, wsDict w.params t31 t32 t33 t34 t35 rv3 (.int a3 t36) (.int c3' t37) sv3 e3) :: (e3, tupO [.ref f3, .int b3 t38] n31) :: (f3, tupO its3 n32) :: news) → LeadIs [] its0 b0 a0 c0' → OffIs o0 home → LeadIs (grow [] h1) its1 b1 a1 c1' → OffIs o1 (zstep way home c1) → LeadIs (grow (grow [] h1) h2) its2 b2 a2 c2' → OffIs o2 (zstep way (zstep way home c1) c2) → LeadIs (grow (grow (grow [] h1) h2) h3) its3 b3 a3 c3' → OffIs o3 (zstep way (zstep way (zstep way home c1) c2) c3) → Q (.ref D) { s with heap := h', toks := tk' }) :
    wpAny (model PySem.Challenge.rw_xg0060_01.row.prog w) (ktrTop dp un gd cn cs L a ccd cl outer) (call (.ref 164) [.int home u1, .ref l, .int way u2]) Q E s := by
  refine stops_cl (news := []) B F X (legs_news N m0 m1 m2 m3) T hk hdp hun W.lo W.hi H.lo H.hi l1.g1 l1.g2 l2.g1 l2.g2 l3.g1 l3.g2 (fun D T0 x0 d0 e0 f0 T1 x1 d1 e1 f1 T2 x2 d2 e2 f2 T3 x3 d3 e3 f3 n h' tk' F' K ND S0 S1 S2 S3 => ?_)
  obtain ⟨t01, t02, t03, t04, t05, t06, t07, t08, t09, rv0, sv0, its0, n01, n02, n03, NS0, hI0, hL0⟩ := S0
  obtain ⟨t11, t12, t13, t14, t15, t16, t17, t18, t19, rv1, sv1, its1, n11, n12, n13, NS1, hI1, hL1⟩ := S1
  obtain ⟨t21, t22, t23, t24, t25, t26, t27, t28, t29, rv2, sv2, its2, n21, n22, n23, NS2, hI2, hL2⟩ := S2
  obtain ⟨t31, t32, t33, t34, t35, t36, t37, t38, t39, rv3, sv3, its3, n31, n32, n33, NS3, hI3, hL3⟩ := S3
  exact hret D T0 x0 d0 e0 f0 T1 x1 d1 e1 f1 T2 x2 d2 e2 f2 T3 x3 d3 e3 f3 n t01 t02 t03 t04 t05 t06 t07 t08 t09 t11 t12 t13 t14 t15 t16 t17 t18 t19 t21 t22 t23 t24 t25 t26 t27 t28 t29 t31 t32 t33 t34 t35 t36 t37 t38 t39 rv0 sv0 rv1 sv1 rv2 sv2 rv3 sv3 its0 its1 its2 its3 n01 n02 n03 n11 n12 n13 n21 n22 n23 n31 n32 n33 _ _ _ _ _ _ _ _ _ _ _ _ _ _ _ _ h' tk' (facts l1 l2 l3).e1 (facts l1 l2 l3).e2 (facts l1 l2 l3).e3 (facts l1 l2 l3).lo F' (news_app (news_app ND (news_app NS0 (news_app NS1 (news_app NS2 NS3)))) (News.keepsAll N K)) ⟨hI0, hL0, rfl, rfl, rfl⟩ ⟨rfl⟩ ⟨hI1, hL1, rfl, rfl, rfl⟩ ⟨rfl⟩ ⟨hI2, hL2, rfl, rfl, rfl⟩ ⟨rfl⟩ ⟨hI3, hL3, rfl, rfl, rfl⟩ ⟨rfl⟩
theorem equal_m {x d e f x' d' e' f' : Addr} {t1 t2 t3 t4 t5 t6 t7 t8 u1 u2 u3 u4 u5 u6 u7 u8 : Tok} {rv sv rv' sv' : Value} {its its' : List Value} {n1 n2 o1 o2 : Nat} {b i j b' i' j' : Int} {p q : List Nat} {v : Bool}
    (B : Below A₀ base outer h₀) (F : Fr h₀ L s.heap m) (X : (hd.heap_39 w.params).In h₀) (N : News h₀ L s.heap news) (T : Top hd.view_39 loose mean mg mb h₀) (hk : cs.kind = .function)
    (hdp : dp + 3 < recursionLimit) (hun : un + 100 < cLine) (m1 : (x, instObj 134 d) ∈ news) (m2 : (d, wsDict w.params t1 t2 t3 t4 t5 rv (.int i t6) (.int j t7) sv e) ∈ news) (m3 : (e, tupO [.ref f, .int b t8] n1) ∈ news) (m4 : (f, tupO its n2) ∈ news) (m5 : (x', instObj 134 d') ∈ news) (m6 : (d', wsDict w.params u1 u2 u3 u4 u5 rv' (.int i' u6) (.int j' u7) sv' e') ∈ news) (m7 : (e', tupO [.ref f', .int b' u8] o1) ∈ news) (m8 : (f', tupO its' o2) ∈ news) (hp : LeadIs p its b i j) (hq' : LeadIs q its' b' i' j') (ev : EqIs p q v)
    (hret : ∀ (h' : Heap) (tk' : Nat), Fr h₀ L h' m → News h₀ L h' news → Q (.bool v) { s with heap := h', toks := tk' }) :
    wpAny (model PySem.Challenge.rw_xg0060_01.row.prog w) (ktrTop dp un gd cn cs L a ccd cl outer) (call (.ref 110) [.ref x, .ref x']) Q E s := by
  refine equal_cl (news := news) (t1 := t1) (t2 := t2) (t3 := t3) (t4 := t4) (t5 := t5) (t6 := t8) (u1 := u1) (u2 := u2) (u3 := u3) (u4 := u4) (u5 := u5) (u6 := u8) (d := d) (D1 := e) (D2 := f) (e := d') (E1 := e') (E2 := f') (rv := rv) (sv := sv) (nv := .int i t6) (ntv := .int j t7) (rv' := rv') (sv' := sv') (nv' := .int i' u6) (ntv' := .int j' u7) (its := its) (its' := its') (n1 := n1) (n2 := n2) (n3 := o1) (n4 := o2) (b := b) (b' := b') B F X (fun r hq => ?ga) T hk hdp hun hp.fi hp.fl hq'.fi hq'.fl (fun h' tk' F' N' => ?gb)
  case gb =>
    have e : (decide ((wsFold p).cnt = (wsFold q).cnt) && decide (b = b')) = v := by
      rw [← hp.eb, ← hq'.eb]
      exact ev.out
    exact e ▸ hret h' tk' F' (fun r hq => N' r (.tail _ (.tail _ (.tail _ (.tail _ (.tail _ (.tail _ (.tail _ (.tail _ hq)))))))))
  rcases List.mem_cons.mp hq with rfl | hq
  · exact N _ m1
  rcases List.mem_cons.mp hq with rfl | hq
  · exact N _ m2
  rcases List.mem_cons.mp hq with rfl | hq
  · exact N _ m3
  rcases List.mem_cons.mp hq with rfl | hq
  · exact N _ m4
  rcases List.mem_cons.mp hq with rfl | hq
  · exact N _ m5
  rcases List.mem_cons.mp hq with rfl | hq
  · exact N _ m6
  rcases List.mem_cons.mp hq with rfl | hq
  · exact N _ m7
  rcases List.mem_cons.mp hq with rfl | hq
  · exact N _ m8
  exact N _ hq
theorem longest_m {x d e f : Addr} {t1 t2 t3 t4 t5 t6 t7 t8 : Tok} {rv sv : Value} {its : List Value} {n1 n2 : Nat} {b i j : Int} {p : List Nat} {v : Int}
    (B : Below A₀ base outer h₀) (F : Fr h₀ L s.heap m) (X : (hd.heap_39 w.params).In h₀) (N : News h₀ L s.heap news) (T : Top hd.view_39 loose mean mg mb h₀) (hk : cs.kind = .function)
    (hdp : dp + 3 < recursionLimit) (m1 : (x, instObj 134 d) ∈ news) (m2 : (d, wsDict w.params t1 t2 t3 t4 t5 rv (.int i t6) (.int j t7) sv e) ∈ news) (m3 : (e, tupO [.ref f, .int b t8] n1) ∈ news) (m4 : (f, tupO its n2) ∈ news) (hp : LeadIs p its b i j) (ev : LongIs p v)
    (hret : ∀ (t : Tok) (h' : Heap) (tk' : Nat), Fr h₀ L h' m → News h₀ L h' news → Q (.int v t) { s with heap := h', toks := tk' }) :
    wpAny (model PySem.Challenge.rw_xg0060_01.row.prog w) (ktrTop dp un gd cn cs L a ccd cl outer) (call (.ref 96) [.ref x]) Q E s := by
  refine longest_cl (news := news) (t1 := t1) (t2 := t2) (t3 := t3) (t4 := t4) (t5 := t5) (t6 := t7) (t7 := t8) (d := d) (D1 := e) (D2 := f) (rv := rv) (sv := sv) (nv := .int i t6) (its := its) (n1 := n1) (n2 := n2) (nt := j) (b := b) B F X (fun r hq => ?ga) T hk hdp hp.fi hp.fl (fun t h' tk' F' N' => ?gb)
  case gb =>
    have e : (if b > ((wsFold p).cnt.length : Int) - 1 then b else ((wsFold p).cnt.length : Int) - 1) = v := by
      rw [← hp.eb]
      exact ev.out
    exact e ▸ hret t h' tk' F' (fun r hq => N' r (.tail _ (.tail _ (.tail _ (.tail _ hq)))))
  rcases List.mem_cons.mp hq with rfl | hq
  · exact N _ m1
  rcases List.mem_cons.mp hq with rfl | hq
  · exact N _ m2
  rcases List.mem_cons.mp hq with rfl | hq
  · exact N _ m3
  rcases List.mem_cons.mp hq with rfl | hq
  · exact N _ m4
  exact N _ hq
end
end Mine
end
section
open PySem PySem.W PyProof.Rows PySem.Calls
set_option maxRecDepth 100000
set_option maxHeartbeats 16000000
namespace Mine
section
variable {prog : Program} {w : World} {A : Around} {E : Value → Shared → Prop} {s : Shared} {h₀ : Heap} {L : Addr} {m : Str → Option Value} {news : List (Addr × Obj)} {Q : Value → Shared → Prop}
noncomputable def noCell (o : Obj) : Bool := match o.data with | .cell _ => false | _ => true
theorem ne_cell {h : Heap} {c a : Addr} {o o' : Obj} {v : Option Value} (N : News h₀ L h news) (m1 : (c, o) ∈ news) (m2 : (a, o') ∈ news) (d : o.data = .cell v) (e : noCell o' = true) : @Ne Nat c a := fun q => by
  have h1 := (N _ m1).1
  have h2 := (N _ m2).1
  have q' : c = a := q
  subst q'
  have h3 : some o = some o' := h1.symm.trans h2
  have h4 := Option.some.inj h3
  subst h4
  unfold noCell at e
  rw [d] at e
  cases e
theorem sub_lst {value slice : Expr} {l : Addr} {o : Obj} {vs : List Value} {n : Nat} {k : Int} {u : Tok} {x : Value} {Q : Value → Shared → Prop} (N : News h₀ L s.heap news) (hm : (l, o) ∈ news) (c : o.cls = .type "list") (d : o.data = .seq vs.toArray n)
    (h0 : 0 ≤ k) (hfit : k < 2 ^ 63) (hx : vs[k.toNat]? = some x) (h : Q x s)
    (hs : subscripted slice false (.ref l) (.int k u) = operate [.ref l, .int k u] (getItem (.ref l) (.int k u))) (hg : ∀ r, letTemporaryGo value (.ref l) r = pure ()) :
    wpAny (model prog w) A (subscriptTail value slice (.ref l) (.int k u)) Q E s :=
  item_list (l := l) (items := vs.toArray) ⟨o, (N _ hm).1, c, n, d⟩ h0 hfit (by simpa using hx) h hs hg
theorem sub_tpl {value slice : Expr} {l : Addr} {o : Obj} {vs : List Value} {n : Nat} {k : Int} {u : Tok} {x : Value} {Q : Value → Shared → Prop} (N : News h₀ L s.heap news) (hm : (l, o) ∈ news) (c : o.cls = .type "tuple") (d : o.data = .seq vs.toArray n)
    (h0 : 0 ≤ k) (hfit : k < 2 ^ 63) (hx : vs[k.toNat]? = some x) (h : Q x s)
    (hs : subscripted slice false (.ref l) (.int k u) = operate [.ref l, .int k u] (getItem (.ref l) (.int k u))) :
    wpAny (model prog w) A (subscriptTail value slice (.ref l) (.int k u)) Q E s := by
  have hlt : k.toNat < vs.length := by
    rcases Nat.lt_or_ge k.toNat vs.length with q | q
    · exact q
    · rw [List.getElem?_eq_none q] at hx; cases hx
  exact item_tupleT (l := vs) (j := k.toNat) ⟨o, (N _ hm).1, c, n, d⟩ (by omega) hfit (seqIndex_at h0 (by omega)) hx h hs
theorem max_law {h1 h2 h3 : Int} {t1 t2 t3 : Tok} {l : Addr} {n : Nat} (F : Fr h₀ L s.heap m) (N : News h₀ L s.heap news) (hm : (l, listOf [Value.int h1 t1, .int h2 t2, .int h3 t3].toArray n) ∈ news) (hh : A.handled = none)
    (h : ∀ h' (t : Tok) tk, Fr h₀ L h' m → News h₀ L h' news → Q (.int (max h1 (max h2 h3)) t) { s with heap := h', toks := tk }) :
    wpAny (model prog w) A (call (.builtin "max") [.ref l]) Q E s := by
  refine kso_max (ns := [h1, h2, h3]) F N (kso_isList N hm rfl) (.cons _ _ (.cons _ _ (.cons _ _ .nil))) (Nat.succ_pos _) hh (fun h' M t tk F' N' hin hle => ?_)
  have a1 := hle h1 (by simp)
  have a2 := hle h2 (by simp)
  have a3 := hle h3 (by simp)
  have e : M = max h1 (max h2 h3) := by
    simp only [List.mem_cons, List.not_mem_nil, or_false] at hin
    omega
  subst e
  exact h h' t tk F' N'
theorem bools_ne {a1 a2 a3 b1 b2 b3 : Bool} {l l' : Addr} {n n' : Nat} (N : News h₀ L s.heap news) (hm : (l, listOf [Value.bool a1, .bool a2, .bool a3].toArray n) ∈ news) (hm' : (l', listOf [Value.bool b1, .bool b2, .bool b3].toArray n') ∈ news)
    (hu : A.units + 64 < cLine) (e1 : a1 = b1) (e2 : a2 = b2) (e3 : a3 = b3) (h : Q (.bool false) s) : wpAny (model prog w) A (compareOp .NotEq (.ref l) (.ref l')) Q E s := by
  subst e1 e2 e3
  refine ne_dataH (da := .list [.bool a1, .bool a2, .bool a3]) (db := .list [.bool a1, .bool a2, .bool a3]) (reads_list_at (N _ hm).1 rfl rfl (.cons (.bool _) (.cons (.bool _) (.cons (.bool _) .nil)))) (reads_list_at (N _ hm').1 rfl rfl (.cons (.bool _) (.cons (.bool _) (.cons (.bool _) .nil)))) rfl rfl hu ?_
  rw [PySem.SeqAt.eqv_refl _ rfl]
  exact h
end
theorem subL_of {l all : List (Addr × Obj)} (h : ∀ q ∈ l, q ∈ all) : SubL l all := by
  induction l with
  | nil => exact trivial
  | cons p r ih => exact ⟨h p (.head _), ih fun q hq => h q (.tail _ hq)⟩
end Mine
end
section
open PySem PySem.W PyProof.Rows PySem.Calls
set_option maxRecDepth 100000
set_option maxHeartbeats 16000000
namespace Mine
example (P : Params) : PySem.Challenge.rw_xg0060_01 = PySem.Challenge.rw_xg0060_01 ∧ hd.heap_39 P = hd.heap_39 P := by
  w_top off
  k_fill
  exact ⟨rfl, rfl⟩
noncomputable def StopM (P : Params) (R : List (Addr × Obj)) (d : Addr) (p : List Nat) : Prop :=
  ∃ (e f : Addr) (t1 t2 t3 t4 t5 t6 t7 t8 : Tok) (rv sv : Value) (its : List Value) (n1 n2 : Nat) (b n nt : Int),
    (d, wsDict P t1 t2 t3 t4 t5 rv (.int n t6) (.int nt t7) sv e) ∈ R ∧ (e, tupO [.ref f, .int b t8] n1) ∈ R ∧ (f, tupO its n2) ∈ R ∧ LeadIs p its b n nt
theorem drop3 {a b c : Addr × Obj} {l : List (Addr × Obj)} : (a :: b :: c :: l).drop 3 = l := rfl
noncomputable def RowsM (R : List (Addr × Obj)) (D : Addr) (x1 x2 x3 x4 : Int) : Prop := ∀ (h₀ : Heap) (L : Addr) (h : Heap), News h₀ L h R → RowsN h₀ L h D x1 x2 x3 x4
theorem off_cells {h₀ h : Heap} {L c : Addr} {o : Obj} {v : Option Value} {R news : List (Addr × Obj)} (N : News h₀ L h news) (k : (c, o) ∈ news) (d : o.data = .cell v) (hs : ∀ q ∈ R, q ∈ news) (hn : R.all (fun q => noCell q.2) = true) : ∀ p ∈ R, @Ne Nat p.1 c := fun p hp =>
  Ne.symm (ne_cell N k (hs p hp) d (List.all_eq_true.mp hn p hp))
theorem stop_m {P : Params} {h₀ h : Heap} {L T x d : Addr} {news R : List (Addr × Obj)} {z o : Int} {p : List Nat} {t9 : Tok} {n3 : Nat} (N : News h₀ L h news) (m1 : (T, tupO [.ref x, .int o t9] n3) ∈ news) (m2 : (x, instObj 134 d) ∈ news)
    (S : StopM P R d p) (hR : ∀ q ∈ R, q ∈ news) (q : OffIs o z) : ∃ e f, StopAt P h₀ L h T x d e f z p := by
  obtain ⟨e, f, t1, t2, t3, t4, t5, t6, t7, t8, rv, sv, its, n1, n2, b, n, nt, m3, m4, m5, l⟩ := S
  exact ⟨e, f, stop_of N m1 m2 (hR _ m3) (hR _ m4) (hR _ m5) l q⟩
theorem rows_m {h₀ h : Heap} {L D : Addr} {x1 x2 x3 x4 : Int} {news : List (Addr × Obj)} (S : RowsN h₀ L h D x1 x2 x3 x4) (N : News h₀ L h news) : ∃ R, RowsM R D x1 x2 x3 x4 ∧ News h₀ L h (R ++ news) := by
  obtain ⟨d1, l1, d2, l2, d3, l3, d4, l4, n, n1, n2, n3, n4, m1, m2, m3, m4, a1, b1, p1, q1, r1, a2, b2, p2, q2, r2, a3, b3, p3, q3, r3, a4, b4, p4, q4, r4, NR⟩ := S
  exact ⟨_, fun _ _ _ N' => ⟨d1, l1, d2, l2, d3, l3, d4, l4, n, n1, n2, n3, n4, m1, m2, m3, m4, a1, b1, p1, q1, r1, a2, b2, p2, q2, r2, a3, b3, p3, q3, r3, a4, b4, p4, q4, r4, N'⟩, news_app NR N⟩
section
variable {w : World} {mean : ExcName → Option Value} {mg mb : Str → Option Value} {loose : List Str} {dp un : Nat} {gd : Option (List Code)} {cn : Str} {cs : Scope} {a : Addr} {ccd : Value} {cl : List (Str × Addr)} {outer : List Env} {A₀ : Around} {base h₀ : Heap} {L : Addr} {m : Str → Option Value} {s : Shared} {Q E : Value → Shared → Prop} {news : List (Addr × Obj)}
theorem stops_o {home way h1 h2 h3 c1 c2 c3 : Int} {u1 u2 t1 t2 t3 t4 t5 t6 : Tok} {l a1 a2 a3 : Addr} {n n1 n2 n3 : Nat} {e1 e2 : Addr} {q1 q2 : Obj} {v1 v2 : Option Value} {Tl : List (Addr × Obj)} (i j k : Nat)
    (B : Below A₀ base outer h₀) (F : Fr h₀ L s.heap m) (X : (hd.heap_39 w.params).In h₀) (N : News h₀ L s.heap news) (T : Top hd.view_39 loose mean mg mb h₀) (hk : cs.kind = .function)
    (hdp : dp + 8 < recursionLimit) (hun : un + 200 < cLine)
    (m0 : (l, listOf [Value.ref a1, .ref a2, .ref a3].toArray n) ∈ news) (m1 : (a1, tupO [.int h1 t1, .int c1 t2] n1) ∈ news) (m2 : (a2, tupO [.int h2 t3, .int c2 t4] n2) ∈ news) (m3 : (a3, tupO [.int h3 t5, .int c3 t6] n3) ∈ news)
    (W : WayOk way) (H : HomeOk home) (l1 : LegOk h1 c1) (l2 : LegOk h2 c2) (l3 : LegOk h3 c3) (hi : news[i]? = some (e1, q1)) (hj : news[j]? = some (e2, q2)) (hT : news.drop k = Tl) (y1 : q1.data = .cell v1) (y2 : q2.data = .cell v2)
    (hret : ∀ (R : List (Addr × Obj)) (D T0 x0 d0 T1 x1 d1 T2 x2 d2 T3 x3 d3 : Addr) (n' n03 n13 n23 n33 : Nat) (t09 t19 t29 t39 : Tok) (o0 o1 o2 o3 : Int) (h' : Heap) (tk' : Nat), EqIs (grow [] h1) (grow [] h3) (decide (h1 = h3)) → EqIs (grow (grow [] h1) h2) (grow (grow [] h3) h2) (decide (h1 = h3)) → EqIs (grow (grow (grow [] h1) h2) h3) (grow (grow (grow [] h3) h2) h1) true → LongIs (grow (grow (grow [] h1) h2) h3) (max h1 (max h2 h3)) → Fr h₀ L h' m →
      News h₀ L h' ((e1, q1) :: (e2, q2) :: (R ++ Tl)) → (D, listOf [Value.ref T0, .ref T1, .ref T2, .ref T3].toArray n') ∈ R → (T0, tupO [.ref x0, .int o0 t09] n03) ∈ R → (x0, instObj 134 d0) ∈ R → StopM w.params R d0 [] → OffIs o0 home → (T1, tupO [.ref x1, .int o1 t19] n13) ∈ R → (x1, instObj 134 d1) ∈ R → StopM w.params R d1 (grow [] h1) → OffIs o1 (zstep way home c1) → (T2, tupO [.ref x2, .int o2 t29] n23) ∈ R → (x2, instObj 134 d2) ∈ R → StopM w.params R d2 (grow (grow [] h1) h2) → OffIs o2 (zstep way (zstep way home c1) c2) → (T3, tupO [.ref x3, .int o3 t39] n33) ∈ R → (x3, instObj 134 d3) ∈ R → StopM w.params R d3 (grow (grow (grow [] h1) h2) h3) → OffIs o3 (zstep way (zstep way (zstep way home c1) c2) c3) →
      (l, listOf [Value.ref a1, .ref a2, .ref a3].toArray n) ∈ R → (a1, tupO [.int h1 t1, .int c1 t2] n1) ∈ R → (a2, tupO [.int h2 t3, .int c2 t4] n2) ∈ R → (a3, tupO [.int h3 t5, .int c3 t6] n3) ∈ R → (∀ p ∈ R, @Ne Nat p.1 e1) → (∀ p ∈ R, @Ne Nat p.1 e2) → Q (.ref D) { s with heap := h', toks := tk' }) :
    wpAny (model PySem.Challenge.rw_xg0060_01.row.prog w) (ktrTop dp un gd cn cs L a ccd cl outer) (call (.ref 164) [.int home u1, .ref l, .int way u2]) Q E s := by
  refine stops_law B F X N T hk hdp hun m0 m1 m2 m3 W H l1 l2 l3 ?_
  intro D T0 x0 d0 e0 f0 T1 x1 d1 e1 f1 T2 x2 d2 e2 f2 T3 x3 d3 e3 f3 n' t01 t02 t03 t04 t05 t06 t07 t08 t09 t11 t12 t13 t14 t15 t16 t17 t18 t19 t21 t22 t23 t24 t25 t26 t27 t28 t29 t31 t32 t33 t34 t35 t36 t37 t38 t39 rv0 sv0 rv1 sv1 rv2 sv2 rv3 sv3 its0 its1 its2 its3 n01 n02 n03 n11 n12 n13 n21 n22 n23 n31 n32 n33 o0 b0 a0 c0' o1 b1 a1' c1' o2 b2 a2' c2' o3 b3 a3' c3' h' tk' E1 E2 E3 LO F' N' I0 O0 I1 O1 I2 O2 I3 O3
  have k1 := List.mem_of_getElem? hi
  have k2 := List.mem_of_getElem? hj
  have kT : ∀ q ∈ Tl, q ∈ news := fun q hq => List.mem_of_mem_drop (hT ▸ hq)
  obtain ⟨R, eR⟩ : ∃ R : List (Addr × Obj), R = [(D, listOf [Value.ref T0, .ref T1, .ref T2, .ref T3].toArray n'), (T0, tupO [.ref x0, .int o0 t09] n03), (x0, instObj 134 d0), (d0, wsDict w.params t01 t02 t03 t04 t05 rv0 (.int a0 t06) (.int c0' t07) sv0 e0), (e0, tupO [.ref f0, .int b0 t08] n01), (f0, tupO its0 n02), (T1, tupO [.ref x1, .int o1 t19] n13), (x1, instObj 134 d1), (d1, wsDict w.params t11 t12 t13 t14 t15 rv1 (.int a1' t16) (.int c1' t17) sv1 e1), (e1, tupO [.ref f1, .int b1 t18] n11), (f1, tupO its1 n12), (T2, tupO [.ref x2, .int o2 t29] n23), (x2, instObj 134 d2), (d2, wsDict w.params t21 t22 t23 t24 t25 rv2 (.int a2' t26) (.int c2' t27) sv2 e2), (e2, tupO [.ref f2, .int b2 t28] n21), (f2, tupO its2 n22), (T3, tupO [.ref x3, .int o3 t39] n33), (x3, instObj 134 d3), (d3, wsDict w.params t31 t32 t33 t34 t35 rv3 (.int a3' t36) (.int c3' t37) sv3 e3), (e3, tupO [.ref f3, .int b3 t38] n31), (f3, tupO its3 n32), (l, listOf [Value.ref a1, .ref a2, .ref a3].toArray n), (a1, tupO [.int h1 t1, .int c1 t2] n1), (a2, tupO [.int h2 t3, .int c2 t4] n2), (a3, tupO [.int h3 t5, .int c3 t6] n3)] := ⟨_, rfl⟩
  obtain ⟨nw, en⟩ : ∃ nw, nw = news := ⟨_, rfl⟩
  have hn : R.all (fun q => noCell q.2) = true := by subst eR; rfl
  have NR : News h₀ L h' (R ++ news) := by
    intro q hq
    rcases List.mem_append.mp hq with hq | hq
    · subst eR
      simp only [List.mem_cons, List.not_mem_nil, or_false] at hq
      rcases hq with rfl | rfl | rfl | rfl | rfl | rfl | rfl | rfl | rfl | rfl | rfl | rfl | rfl | rfl | rfl | rfl | rfl | rfl | rfl | rfl | rfl | rfl | rfl | rfl | rfl
      · exact N' _ (by k_mem)
      · exact N' _ (by k_mem)
      · exact N' _ (by k_mem)
      · exact N' _ (by k_mem)
      · exact N' _ (by k_mem)
      · exact N' _ (by k_mem)
      · exact N' _ (by k_mem)
      · exact N' _ (by k_mem)
      · exact N' _ (by k_mem)
      · exact N' _ (by k_mem)
      · exact N' _ (by k_mem)
      · exact N' _ (by k_mem)
      · exact N' _ (by k_mem)
      · exact N' _ (by k_mem)
      · exact N' _ (by k_mem)
      · exact N' _ (by k_mem)
      · exact N' _ (by k_mem)
      · exact N' _ (by k_mem)
      · exact N' _ (by k_mem)
      · exact N' _ (by k_mem)
      · exact N' _ (by k_mem)
      · exact N' _ (by iterate 21 refine List.Mem.tail _ ?_
                       exact m0)
      · exact N' _ (by iterate 21 refine List.Mem.tail _ ?_
                       exact m1)
      · exact N' _ (by iterate 21 refine List.Mem.tail _ ?_
                       exact m2)
      · exact N' _ (by iterate 21 refine List.Mem.tail _ ?_
                       exact m3)
    · exact N' _ (by iterate 21 refine List.Mem.tail _ ?_
                     exact hq)
  have s1 : ∀ q ∈ R, q ∈ R ++ news := fun q hq => List.mem_append_left _ hq
  refine hret R D T0 x0 d0 T1 x1 d1 T2 x2 d2 T3 x3 d3 n' n03 n13 n23 n33 t09 t19 t29 t39 o0 o1 o2 o3 h' tk' E1 E2 E3 LO F' (fun q hq => ?_) ?_ ?_ ?_ ?_ O0 ?_ ?_ ?_ O1 ?_ ?_ ?_ O2 ?_ ?_ ?_ O3 ?_ ?_ ?_ ?_ (off_cells NR (List.mem_append_right _ k1) y1 s1 hn) (off_cells NR (List.mem_append_right _ k2) y2 s1 hn)
  · rcases List.mem_cons.mp hq with rfl | hq
    · exact NR _ (List.mem_append_right _ k1)
    rcases List.mem_cons.mp hq with rfl | hq
    · exact NR _ (List.mem_append_right _ k2)
    rcases List.mem_append.mp hq with hq | hq
    · exact NR _ (List.mem_append_left _ hq)
    · exact NR _ (List.mem_append_right _ (kT _ hq))
  all_goals subst eR
  · k_mem
  · k_mem
  · k_mem
  · exact ⟨e0, f0, t01, t02, t03, t04, t05, t06, t07, t08, rv0, sv0, its0, n01, n02, b0, a0, c0', by k_mem, by k_mem, by k_mem, I0⟩
  · k_mem
  · k_mem
  · exact ⟨e1, f1, t11, t12, t13, t14, t15, t16, t17, t18, rv1, sv1, its1, n11, n12, b1, a1', c1', by k_mem, by k_mem, by k_mem, I1⟩
  · k_mem
  · k_mem
  · exact ⟨e2, f2, t21, t22, t23, t24, t25, t26, t27, t28, rv2, sv2, its2, n21, n22, b2, a2', c2', by k_mem, by k_mem, by k_mem, I2⟩
  · k_mem
  · k_mem
  · exact ⟨e3, f3, t31, t32, t33, t34, t35, t36, t37, t38, rv3, sv3, its3, n31, n32, b3, a3', c3', by k_mem, by k_mem, by k_mem, I3⟩
  · k_mem
  · k_mem
  · k_mem
  · k_mem
theorem meth_equal {x d : Addr} {R : List (Addr × Obj)} {p : List Nat} {pl : Sem Bool} {A : Around} {Q : Value × List Value → Shared → Prop} (F : Fr h₀ L s.heap m) (X : (hd.heap_39 w.params).In h₀) (N : News h₀ L s.heap news) (m1 : (x, instObj 134 d) ∈ news) (S : StopM w.params R d p) (hR : ∀ q ∈ R, q ∈ news)
    (h : Q (.ref 110, [.ref x]) s) : wpAny (model PySem.Challenge.rw_xg0060_01.row.prog w) A (getMethod (.ref x) (Str.ofString "equal") pl) Q E s := by
  obtain ⟨e, f, t1, t2, t3, t4, t5, t6, t7, t8, rv, sv, its, n1, n2, b, n, nt, q3, q4, q5, l⟩ := S
  have q3 := hR _ q3
  unfold wsDict at q3
  refine method_inst (K := hd.heap_39 w.params) F X (InstAt.of_news N m1 q3) ?_ ?_ ?_ ?_ h
  · k_dflt k_is
  · k_dflt k_is
  · k_dflt k_is
  · k_dflt k_get
theorem meth_longest_run_of_spaces {x d : Addr} {R : List (Addr × Obj)} {p : List Nat} {pl : Sem Bool} {A : Around} {Q : Value × List Value → Shared → Prop} (F : Fr h₀ L s.heap m) (X : (hd.heap_39 w.params).In h₀) (N : News h₀ L s.heap news) (m1 : (x, instObj 134 d) ∈ news) (S : StopM w.params R d p) (hR : ∀ q ∈ R, q ∈ news)
    (h : Q (.ref 96, [.ref x]) s) : wpAny (model PySem.Challenge.rw_xg0060_01.row.prog w) A (getMethod (.ref x) (Str.ofString "longest_run_of_spaces") pl) Q E s := by
  obtain ⟨e, f, t1, t2, t3, t4, t5, t6, t7, t8, rv, sv, its, n1, n2, b, n, nt, q3, q4, q5, l⟩ := S
  have q3 := hR _ q3
  unfold wsDict at q3
  refine method_inst (K := hd.heap_39 w.params) F X (InstAt.of_news N m1 q3) ?_ ?_ ?_ ?_ h
  · k_dflt k_is
  · k_dflt k_is
  · k_dflt k_is
  · k_dflt k_get
theorem equal_o {x d x' d' : Addr} {R R' : List (Addr × Obj)} {p q : List Nat} {v : Bool}
    (B : Below A₀ base outer h₀) (F : Fr h₀ L s.heap m) (X : (hd.heap_39 w.params).In h₀) (N : News h₀ L s.heap news) (T : Top hd.view_39 loose mean mg mb h₀) (hk : cs.kind = .function)
    (hdp : dp + 3 < recursionLimit) (hun : un + 100 < cLine) (m1 : (x, instObj 134 d) ∈ news) (m5 : (x', instObj 134 d') ∈ news) (S : StopM w.params R d p) (S' : StopM w.params R' d' q) (hR : ∀ q ∈ R, q ∈ news) (hR' : ∀ q ∈ R', q ∈ news) (ev : EqIs p q v)
    (hret : ∀ (h' : Heap) (tk' : Nat), Fr h₀ L h' m → News h₀ L h' news → Q (.bool v) { s with heap := h', toks := tk' }) :
    wpAny (model PySem.Challenge.rw_xg0060_01.row.prog w) (ktrTop dp un gd cn cs L a ccd cl outer) (call (.ref 110) [.ref x, .ref x']) Q E s := by
  obtain ⟨e, f, t1, t2, t3, t4, t5, t6, t7, t8, rv, sv, its, n1, n2, b, n, nt, q3, q4, q5, l⟩ := S
  obtain ⟨e', f', t1', t2', t3', t4', t5', t6', t7', t8', rv', sv', its', n1', n2', b', n', nt', q3', q4', q5', l'⟩ := S'
  exact equal_m B F X N T hk hdp hun m1 (hR _ q3) (hR _ q4) (hR _ q5) m5 (hR' _ q3') (hR' _ q4') (hR' _ q5') l l' ev hret
theorem longest_o {x d : Addr} {R : List (Addr × Obj)} {p : List Nat} {v : Int}
    (B : Below A₀ base outer h₀) (F : Fr h₀ L s.heap m) (X : (hd.heap_39 w.params).In h₀) (N : News h₀ L s.heap news) (T : Top hd.view_39 loose mean mg mb h₀) (hk : cs.kind = .function)
    (hdp : dp + 3 < recursionLimit) (m1 : (x, instObj 134 d) ∈ news) (S : StopM w.params R d p) (hR : ∀ q ∈ R, q ∈ news) (ev : LongIs p v)
    (hret : ∀ (t : Tok) (h' : Heap) (tk' : Nat), Fr h₀ L h' m → News h₀ L h' news → Q (.int v t) { s with heap := h', toks := tk' }) :
    wpAny (model PySem.Challenge.rw_xg0060_01.row.prog w) (ktrTop dp un gd cn cs L a ccd cl outer) (call (.ref 96) [.ref x]) Q E s := by
  obtain ⟨e, f, t1, t2, t3, t4, t5, t6, t7, t8, rv, sv, its, n1, n2, b, n, nt, q3, q4, q5, l⟩ := S
  exact longest_m B F X N T hk hdp m1 (hR _ q3) (hR _ q4) (hR _ q5) l ev hret
theorem diary_o {way size home h1 c1 h2 c2 h3 c3 o0 o1 o2 o3 : Int} {u1 u2 t0 t1 t2 t3 : Tok} {D T0 x0 d0 T1 x1 d1 T2 x2 d2 T3 x3 d3 : Addr} {n n0 n1 n2 n3 : Nat} {R : List (Addr × Obj)}
    (B : Below A₀ base outer h₀) (F : Fr h₀ L s.heap m) (X : (hd.heap_39 w.params).In h₀) (N : News h₀ L s.heap news) (T : Top hd.view_39 loose mean mg mb h₀) (hk : cs.kind = .function)
    (hdp : dp + 8 < recursionLimit) (hun : un + 200 < cLine) (W : WayOk way) (Z : SizeOk size) (H : HomeOk home) (l1 : LegOk h1 c1) (l2 : LegOk h2 c2) (l3 : LegOk h3 c3)
    (ND : (D, listOf [Value.ref T0, .ref T1, .ref T2, .ref T3].toArray n) ∈ news) (hR : ∀ q ∈ R, q ∈ news) (g0 : (T0, tupO [.ref x0, .int o0 t0] n0) ∈ news) (f0 : (x0, instObj 134 d0) ∈ news) (S0 : StopM w.params R d0 []) (O0 : OffIs o0 home) (g1 : (T1, tupO [.ref x1, .int o1 t1] n1) ∈ news) (f1 : (x1, instObj 134 d1) ∈ news) (S1 : StopM w.params R d1 (grow [] h1)) (O1 : OffIs o1 (zstep way home c1)) (g2 : (T2, tupO [.ref x2, .int o2 t2] n2) ∈ news) (f2 : (x2, instObj 134 d2) ∈ news) (S2 : StopM w.params R d2 (grow (grow [] h1) h2)) (O2 : OffIs o2 (zstep way (zstep way home c1) c2)) (g3 : (T3, tupO [.ref x3, .int o3 t3] n3) ∈ news) (f3 : (x3, instObj 134 d3) ∈ news) (S3 : StopM w.params R d3 (grow (grow (grow [] h1) h2) h3)) (O3 : OffIs o3 (zstep way (zstep way (zstep way home c1) c2) c3))
    (hret : ∀ (R : List (Addr × Obj)) (y1 y2 y3 : Int) (D' : Addr) (h' : Heap) (tk' : Nat), LawX way size home h1 c1 h2 c2 h3 c3 y1 y2 y3 → RowsM R D' home y1 y2 y3 → Fr h₀ L h' m → News h₀ L h' (R ++ news) → Q (.ref D') { s with heap := h', toks := tk' }) :
    wpAny (model PySem.Challenge.rw_xg0060_01.row.prog w) (ktrTop dp un gd cn cs L a ccd cl outer) (call (.ref 171) [.ref D, .int way u1, .int size u2]) Q E s := by
  obtain ⟨y1, o1'⟩ : ∃ x, x = 2 * roundUp (0 + h1 + 1) size + zstep way home c1 := ⟨_, rfl⟩
  obtain ⟨y2, o2'⟩ : ∃ x, x = 2 * roundUp (roundUp (0 + h1 + 1) size + h2 + 1) size + zstep way (zstep way home c1) c2 := ⟨_, rfl⟩
  obtain ⟨y3, o3'⟩ : ∃ x, x = 2 * roundUp (roundUp (roundUp (0 + h1 + 1) size + h2 + 1) size + h3 + 1) size + zstep way (zstep way (zstep way home c1) c2) c3 := ⟨_, rfl⟩
  have V := ways W Z H l1 l2 l3 rfl rfl rfl o1' o2' o3'
  obtain ⟨_, _, K0⟩ := stop_m N g0 f0 S0 hR O0
  obtain ⟨_, _, K1⟩ := stop_m N g1 f1 S1 hR O1
  obtain ⟨_, _, K2⟩ := stop_m N g2 f2 S2 hR O2
  obtain ⟨_, _, K3⟩ := stop_m N g3 f3 S3 hR O3
  refine diary_cl (n := n) B F X (fun q hq => ?_) K0 K1 K2 K3 T hk hdp hun Z.lo Z.hi W.lo W.hi (hour_zero Z.lo) V.b0 V.u0 V.a1 V.b1 V.u1 V.a2 V.b2 V.u2 V.a3 V.b3 V.u3 V.k0 V.k1 V.k2 V.k3 (fun D' h' tk' F' K R' => ?_)
  · rcases List.mem_cons.mp hq with rfl | hq
    · exact N _ ND
    nomatch hq
  · obtain ⟨R3, M, N'⟩ := rows_m R' (News.keepsAll N K)
    exact hret R3 y1 y2 y3 D' h' tk' ⟨o1', o2', o3'⟩ M F' N'
theorem cal_o {home way size h1 h2 h3 c1 c2 c3 : Int} {u1 u2 u3 t1 t2 t3 t4 t5 t6 : Tok} {l a1 a2 a3 : Addr} {n n1 n2 n3 : Nat}
    (B : Below A₀ base outer h₀) (F : Fr h₀ L s.heap m) (X : (hd.heap_39 w.params).In h₀) (N : News h₀ L s.heap news) (T : Top hd.view_39 loose mean mg mb h₀) (hk : cs.kind = .function)
    (hdp : dp + 6 < recursionLimit) (hun : un + 100 < cLine) (W : WayOk way) (Z : SizeOk size)
    (m0 : (l, listOf [Value.ref a1, .ref a2, .ref a3].toArray n) ∈ news) (m1 : (a1, tupO [.int h1 t1, .int c1 t2] n1) ∈ news) (m2 : (a2, tupO [.int h2 t3, .int c2 t4] n2) ∈ news) (m3 : (a3, tupO [.int h3 t5, .int c3 t6] n3) ∈ news)
    (hret : ∀ (R : List (Addr × Obj)) (y1 y2 y3 : Int) (D' : Addr) (h' : Heap) (tk' : Nat), LawX way size home h1 c1 h2 c2 h3 c3 y1 y2 y3 → RowsM R D' home y1 y2 y3 → Fr h₀ L h' m → News h₀ L h' (R ++ news) → Q (.ref D') { s with heap := h', toks := tk' }) :
    wpAny (model PySem.Challenge.rw_xg0060_01.row.prog w) (ktrTop dp un gd cn cs L a ccd cl outer) (call (.ref 157) [.int home u1, .ref l, .int way u2, .int size u3]) Q E s := by
  obtain ⟨x1, o1⟩ : ∃ x, x = 2 * roundUp (0 + h1 + 1) size + zstep way home c1 := ⟨_, rfl⟩
  obtain ⟨x2, o2⟩ : ∃ x, x = 2 * roundUp (roundUp (0 + h1 + 1) size + h2 + 1) size + zstep way (zstep way home c1) c2 := ⟨_, rfl⟩
  obtain ⟨x3, o3⟩ : ∃ x, x = 2 * roundUp (roundUp (roundUp (0 + h1 + 1) size + h2 + 1) size + h3 + 1) size + zstep way (zstep way (zstep way home c1) c2) c3 := ⟨_, rfl⟩
  refine cal_cl (news := []) B F X (legs_news N m0 m1 m2 m3) T hk hdp hun Z.lo Z.hi W.lo W.hi (fun D' h' tk' F' K R' => ?_)
  have R' := R' _ _ _ rfl rfl rfl
  rw [← o1, ← o2, ← o3] at R'
  obtain ⟨R3, M, N'⟩ := rows_m R' (News.keepsAll N K)
  exact hret R3 x1 x2 x3 D' h' tk' ⟨o1, o2, o3⟩ M F' N'
end
section
variable {prog : Program} {w : World} {A : Around} {E : Value → Shared → Prop} {s : Shared} {h₀ : Heap} {L : Addr} {m : Str → Option Value} {news : List (Addr × Obj)}
theorem store_c1 {cn : Str} {cs : Scope} {a : Addr} {ccd : Value} {cl : List (Str × Addr)} {x : Str} {v : Value} {c : Addr} {o : Obj} {v₀ : Option Value} {Q : Unit → Shared → Prop}
    (F : Fr h₀ L s.heap m) (N : News h₀ L s.heap ((c, o) :: news)) (hc : cl.lookup x = some c) (off : ∀ p ∈ news, @Ne Nat p.1 c) (hd : o.data = .cell v₀)
    (h : ∀ h' o', Fr h₀ L h' m → News h₀ L h' ((c, o') :: news) → o'.data = .cell (some v) → Q () { s with heap := h' })
    (hkk : cs.kind = .function) (hx : (envX cn cs L a ccd cl).kindOf x = some .cell) : wpAny (model prog w) A (storeName (envX cn cs L a ccd cl) x v) Q E s :=
  storeX_C F N hc (UpdF.head off) hd h hkk hx
theorem store_c2 {cn : Str} {cs : Scope} {a : Addr} {ccd : Value} {cl : List (Str × Addr)} {x : Str} {v : Value} {c : Addr} {o : Obj} {q : Addr × Obj} {v₀ : Option Value} {Q : Unit → Shared → Prop}
    (F : Fr h₀ L s.heap m) (N : News h₀ L s.heap (q :: (c, o) :: news)) (hc : cl.lookup x = some c) (hq : @Ne Nat q.1 c) (off : ∀ p ∈ news, @Ne Nat p.1 c) (hd : o.data = .cell v₀)
    (h : ∀ h' o', Fr h₀ L h' m → News h₀ L h' (q :: (c, o') :: news) → o'.data = .cell (some v) → Q () { s with heap := h' })
    (hkk : cs.kind = .function) (hx : (envX cn cs L a ccd cl).kindOf x = some .cell) : wpAny (model prog w) A (storeName (envX cn cs L a ccd cl) x v) Q E s :=
  storeX_C F N hc (UpdF.tail hq (UpdF.head off)) hd h hkk hx
theorem rowsAt_m {h₀ h : Heap} {L D : Addr} {x1 x2 x3 x4 : Int} (S : RowsN h₀ L h D x1 x2 x3 x4) : RowsAt h D [x1, x2, x3, x4] := by
  obtain ⟨d1, l1, d2, l2, d3, l3, d4, l4, n, n1, n2, n3, n4, m1, m2, m3, m4, a1, b1, p1, q1, r1, a2, b2, p2, q2, r2, a3, b3, p3, q3, r3, a4, b4, p4, q4, r4, N⟩ := S
  exact RowsAt.four (N _ (.head _)).1 rfl (N _ (.tail _ (.head _))).1 rfl (N _ (.tail _ (.tail _ (.tail _ (.head _))))).1 rfl (N _ (.tail _ (.tail _ (.tail _ (.tail _ (.tail _ (.head _))))))).1 rfl (N _ (.tail _ (.tail _ (.tail _ (.tail _ (.tail _ (.tail _ (.tail _ (.head _))))))))).1 rfl (N _ (.tail _ (.tail _ (.head _)))).1 rfl (N _ (.tail _ (.tail _ (.tail _ (.tail _ (.head _)))))).1 rfl (N _ (.tail _ (.tail _ (.tail _ (.tail _ (.tail _ (.tail _ (.head _)))))))).1 rfl (N _ (.tail _ (.tail _ (.tail _ (.tail _ (.tail _ (.tail _ (.tail _ (.tail _ (.head _)))))))))).1 rfl
theorem rows_o {way size home h1 c1 h2 c2 h3 c3 x1 x2 x3 y1 y2 y3 : Int} {D D' : Addr} {R R' : List (Addr × Obj)} {Q : Value → Shared → Prop} (N : News h₀ L s.heap news) (M : RowsM R D home x1 x2 x3) (M' : RowsM R' D' home y1 y2 y3) (hR : ∀ q ∈ R, q ∈ news) (hR' : ∀ q ∈ R', q ∈ news)
    (X : LawX way size home h1 c1 h2 c2 h3 c3 x1 x2 x3) (Y : LawX way size home h1 c1 h2 c2 h3 c3 y1 y2 y3) (hu : A.units + 64 < cLine) (h : Q (.bool false) s) :
    wpAny (model prog w) A (compareOp .NotEq (.ref D) (.ref D')) Q E s := by
  have e1 : y1 = x1 := Y.o1.trans X.o1.symm
  have e2 : y2 = x2 := Y.o2.trans X.o2.symm
  have e3 : y3 = x3 := Y.o3.trans X.o3.symm
  subst e1 e2 e3
  obtain ⟨_, K'⟩ := rowsAt_m (M' _ _ _ (news_sub N hR'))
  obtain ⟨_, K⟩ := rowsAt_m (M _ _ _ (news_sub N hR))
  refine ne_dataH K K' rows_shaped rows_shaped hu ?_
  rw [rows_same]
  exact h
end
theorem turn_endG {h₀ : Heap} {L : Addr} {s₁ : Shared} {h' : Heap} {tk : Nat} {m' : Str → Option Value} {rest : (Str → Option Value) → List (Addr × Obj) → Prop} {I : Addr} {it : Obj} {all n' : List (Addr × Obj)}
    (F : Fr h₀ L h' m') (N : News h₀ L h' all) (hl : AllLt I n') (hI : (I, it) ∈ all) (sub : ∀ q ∈ n', q ∈ all) (r : rest m' n') : UnrEndW h₀ L s₁ [(I, it)] rest { s₁ with heap := h', toks := tk } := by
  refine ⟨h', tk, m', n', rfl, F, fun p hp => N p ?_, fun p hp q hq => ?_, r⟩
  · rcases List.mem_append.mp hp with hp | hp
    · rw [List.mem_singleton.mp hp]; exact hI
    · exact sub p hp
  · rw [List.mem_singleton.mp hq]; exact ne_allLt hl p hp
end Mine
end
section
open PySem PySem.W PyProof.Rows PySem.Calls
set_option maxRecDepth 100000
set_option maxHeartbeats 16000000
namespace Mine
example : True := by
  k_with_none
  (k_with "subscriptTail Name Slice ref ref" => (k_here; (with_reducible show wpAny _ _ (subscriptTail _ (PySem.Expr.Slice _ _ _ _) (Value.ref _) (Value.ref _)) _ _ _); k_dflt (refine' slice3_ints ?FZq ?NZq ?lZq ?iZq ?pZq ?qZq ?rZq ?oZq ?_ ?sZq ?tZq ?zZq; (case FZq => k_asm); (case NZq => k_asm); (case lZq => kmk_list); (case iZq => l_ints); (case pZq => kmk_part); (case qZq => kmk_part); (case rZq => kmk_part); (case oZq => decide); (case sZq => with_unfolding_all rfl); (case tZq => kmk_pure); (case zZq => exact kmk_sz (by assumption) (by simp only [sizeLine_eq]; omega))); intro D' ws' ms' h' F' N' l1 hI'; (try k_lt l1); (try k_sweep)))
  (k_with "lcg_off" => with_reducible assumption)
  (k_with "CompRest" => (with_unfolding_all first | (refine LCg.CompRest.succ ?_; intro v' I' oI' C' oC' D' m' h' tk' E' hv' hC' hx' F' N' off' ne'; (first | lcg_open hv' | (obtain ⟨t9', hv9'⟩ := hv'; subst hv9')); (try k_sweep)) | refine LCg.CompRest.zero ?_))
  (k_with "CompSrc" => (k_here; k_dflt (refine LCg.CompSrc.ledger (by rfl) (by k_asm) (by k_asm) (by k_mem) (by first | exact Nat.le_of_ble_eq_true rfl | size_fits) ?_; intro g'; lcg_lit)))
  (k_with "k_lt" => skip)
  (k_with "k_ne" => (refine neN ?_; (try dsimp only); (first | exact Nat.ne_of_lt (allLt_get (by with_reducible assumption) (by k_mem)) | exact Nat.ne_of_gt (allLt_get (by with_reducible assumption) (by k_mem)) | exact Ne.symm (ne_cell (by k_asm) (by k_mem) (by k_mem) (by with_reducible assumption) (by exact rfl)) | exact ne_cell (by k_asm) (by k_mem) (by k_mem) (by with_reducible assumption) (by exact rfl) | omega)))
  (k_with "CompRestP" => (with_unfolding_all first | (refine LCp.CompRestP.succ ?_; intro v' hv'; lcg_open hv'; refine ⟨_, _, _, _, _, rfl, by k_mem, rfl, rfl, ?_⟩; intro I' oI' C' oC' D' m' h' tk' E' hC' hx' hy' F' N' off' ne'; (try k_sweep)) | refine LCp.CompRestP.zero ?_))
  (k_with "lcg_sub" => first | exact List.forall_mem_nil _ | with_reducible exact fun q hq => hq | (intro q hq; (repeat (first | exact hq | exact memL hq | refine memR ?_ | refine List.Mem.tail _ ?_)); done) | refine List.forall_mem_cons.mpr ⟨by k_mem, by lcg_sub⟩)
  (k_with "k_mem" => first | exact List.Mem.head _ | (refine' List.Mem.tail _ ?_; k_mem) | with_reducible_and_instances assumption | (refine memL ?_; k_mem) | (refine memR ?_; k_mem))
  (k_with "k_all" => first | with_reducible assumption | exact List.forall_mem_nil _ | assumption | exact ne_allLt (by with_reducible assumption) | refine all_app (by k_all) (by k_all) | refine List.forall_mem_cons.mpr ⟨by k_ne, by k_all⟩)
  (k_with "pyIter ref" => (k_here; (rename Fr _ _ _ _ => lF'); (rename News _ _ _ _ => lN'); (with_unfolding_all refine' iter_listTurns (vs := [Value.ref _, Value.ref _]) ?hhZq lF' lN' ?hmZq ?hcZq ?hdZq ?_); (case hhZq => rfl); (case hmZq => k_mem); (case hcZq => exact rfl); (case hdZq => exact rfl); clear lF'; intro i' l1; (try k_lt l1)))
  (k_with "getMethod ref" => (k_here; k_dflt (first | (refine' meth_equal ?fZq ?xZq ?nZq ?mZq ?sZq ?rZq ?_; (case fZq => k_asm); (case xZq => k_asm); (case nZq => k_asm); (case mZq => k_mem); (case sZq => with_reducible assumption); (case rZq => lcg_sub); k_whole) | (refine' meth_longest_run_of_spaces ?fZq ?xZq ?nZq ?mZq ?sZq ?rZq ?_; (case fZq => k_asm); (case xZq => k_asm); (case nZq => k_asm); (case mZq => k_mem); (case sZq => with_reducible assumption); (case rZq => lcg_sub); k_whole))))
  (k_with "CompEnd" => ((first | (with_reducible show LCg.CompEnd _ _ _ _ _ _ _ _ _ _ _ _ (Value.bool _) _) | (with_reducible show LCg.CompEnd _ _ _ _ _ _ _ _ _ _ _ _ (Value.int _ _) _)); (rename News _ _ _ _ => lN'); refine' LCg.CompEnd.intro ?fZq lN' _ ?sZq ?oZq ?hZq ?_; (case oZq => with_reducible assumption); (case fZq => assumption); (case sZq => lcg_sub); (case hZq => lcg_src)))
  (k_with "UnrEndW" => ((rename Fr _ _ _ _ => lF'); (rename News _ _ _ _ => lN'); refine' turn_endG lF' lN' ?lZq ?iZq ?sZq ?_; (case lZq => with_reducible assumption); (case iZq => k_mem); (case sZq => lcg_sub); refine And.intro (And.intro (by k_mem) trivial) ?_))
  (k_with "lcg_src" => exact Or.inr ⟨_, by k_mem, rfl, _, rfl⟩)
  (k_with "binaryOp Mod int int" => (k_here; (with_reducible show wpAny _ _ (binaryOp _ (Value.int _ _) (Value.int 8 _)) _ _ _); k_dflt (refine hours_mod ?_); intro z' t' k' hz'))
  (k_with "binaryOp Mod int int" => (k_here; (with_reducible show wpAny _ _ (binaryOp _ (Value.int (Int.fdiv _ _) _) (Value.int (_ + _) _)) _ _ _); k_dflt (refine round_mod (by with_reducible assumption) ?_); intro c' t' k' hc'))
  (k_with "binaryOp Sub int int" => (k_here; (with_reducible show wpAny _ _ (binaryOp _ (Value.int (Int.fmod _ _) _) (Value.int _ _)) _ _ _); k_dflt (refine home_sub ?_); intro z' t' k' hz'))
  (k_with "binaryOp Add int int" => (k_here; (with_reducible show wpAny _ _ (binaryOp _ (Value.int 1 _) (Value.int _ _)) _ _ _); k_dflt (refine size_add (by with_reducible assumption) ?_); intro z' t' k' hz'))
  (k_with "binaryOp Add int int" => (k_here; (with_reducible show wpAny _ _ (binaryOp _ (Value.int 1 _) (Value.int (max _ _) _)) _ _ _); k_dflt (refine long_add (by with_reducible assumption) (by with_reducible assumption) (by with_reducible assumption) ?_); intro t' k' hz'))
  (k_with "call ref" => (k_here; (with_reducible show wpAny _ _ (call (Value.ref 164) _) _ _ _); k_dflt (first | (refine' stops_o (Tl := []) 9 10 11 ?k1Zq ?k2Zq ?k3Zq ?k4Zq ?k5Zq ?k6Zq ?k7Zq ?k8Zq ?m0Zq ?m1Zq ?m2Zq ?m3Zq ?wZq ?zZq ?g1Zq ?g2Zq ?g3Zq ?iZq ?jZq ?tZq ?y1Zq ?y2Zq ?_; (case k2Zq => k_asm); (case k1Zq => k_asm); (case k3Zq => k_asm); (case k4Zq => k_asm); (case k5Zq => k_asm); (case k6Zq => first | exact rfl | assumption); (case k7Zq => ktr_room); (case k8Zq => ktr_units); (case m0Zq => k_mem); (case m1Zq => k_mem); (case m2Zq => k_mem); (case m3Zq => k_mem); (case wZq => first | exact way_east | exact way_west); (case zZq => with_reducible assumption); (case g1Zq => exact leg_of (by with_reducible assumption) (by with_reducible assumption)); (case g2Zq => exact leg_of (by with_reducible assumption) (by with_reducible assumption)); (case g3Zq => exact leg_of (by with_reducible assumption) (by with_reducible assumption)); (case iZq => exact rfl); (case jZq => exact rfl); (case tZq => exact rfl); (case y1Zq => with_reducible assumption); (case y2Zq => with_reducible assumption); k_whole) | (refine' stops_o 1 2 3 ?k1Zq ?k2Zq ?k3Zq ?k4Zq ?k5Zq ?k6Zq ?k7Zq ?k8Zq ?m0Zq ?m1Zq ?m2Zq ?m3Zq ?wZq ?zZq ?g1Zq ?g2Zq ?g3Zq ?iZq ?jZq ?tZq ?y1Zq ?y2Zq ?_; (case k2Zq => k_asm); (case k1Zq => k_asm); (case k3Zq => k_asm); (case k4Zq => k_asm); (case k5Zq => k_asm); (case k6Zq => first | exact rfl | assumption); (case k7Zq => ktr_room); (case k8Zq => ktr_units); (case m0Zq => k_mem); (case m1Zq => k_mem); (case m2Zq => k_mem); (case m3Zq => k_mem); (case wZq => first | exact way_east | exact way_west); (case zZq => with_reducible assumption); (case g1Zq => exact leg_of (by with_reducible assumption) (by with_reducible assumption)); (case g2Zq => exact leg_of (by with_reducible assumption) (by with_reducible assumption)); (case g3Zq => exact leg_of (by with_reducible assumption) (by with_reducible assumption)); (case iZq => exact rfl); (case jZq => exact rfl); (case tZq => exact drop3); (case y1Zq => with_reducible assumption); (case y2Zq => with_reducible assumption); k_whole)); intros; (try dsimp only); (try k_sweep)))
  (k_with "call ref" => (k_here; (with_reducible show wpAny _ _ (call (Value.ref 110) _) _ _ _); k_dflt (refine' equal_o ?k1Zq ?k2Zq ?k3Zq ?k4Zq ?k5Zq ?k6Zq ?k7Zq ?k8Zq ?maZq ?mbZq ?saZq ?sbZq ?raZq ?rbZq ?eZq ?_; (case k2Zq => k_asm); (case k1Zq => k_asm); (case k3Zq => k_asm); (case k4Zq => k_asm); (case k5Zq => k_asm); (case k6Zq => first | exact rfl | assumption); (case k7Zq => ktr_room); (case k8Zq => ktr_units); (case maZq => k_mem); (case mbZq => k_mem); (case saZq => with_reducible assumption); (case sbZq => with_reducible assumption); (case raZq => lcg_sub); (case rbZq => lcg_sub); (case eZq => with_reducible assumption); k_whole); intros; (try dsimp only); (try k_sweep)))
  (k_with "call ref" => (k_here; (with_reducible show wpAny _ _ (call (Value.ref 96) _) _ _ _); k_dflt (refine' longest_o ?k1Zq ?k2Zq ?k3Zq ?k4Zq ?k5Zq ?k6Zq ?k7Zq ?maZq ?saZq ?raZq ?eZq ?_; (case k2Zq => k_asm); (case k1Zq => k_asm); (case k3Zq => k_asm); (case k4Zq => k_asm); (case k5Zq => k_asm); (case k6Zq => first | exact rfl | assumption); (case k7Zq => ktr_room); (case maZq => k_mem); (case saZq => with_reducible assumption); (case raZq => lcg_sub); (case eZq => with_reducible assumption); k_whole); intros; (try dsimp only); (try k_sweep)))
  (k_with "call ref" => (k_here; (with_reducible show wpAny _ _ (call (Value.ref 171) _) _ _ _); k_dflt (refine' diary_o ?k1Zq ?k2Zq ?k3Zq ?k4Zq ?k5Zq ?k6Zq ?k7Zq ?k8Zq ?wZq ?zZq ?hZq ?g1Zq ?g2Zq ?g3Zq ?ndZq ?rZq ?a0Zq ?b0Zq ?s0Zq ?q0Zq ?a1Zq ?b1Zq ?s1Zq ?q1Zq ?a2Zq ?b2Zq ?s2Zq ?q2Zq ?a3Zq ?b3Zq ?s3Zq ?q3Zq ?_; (case k2Zq => k_asm); (case k1Zq => k_asm); (case k3Zq => k_asm); (case k4Zq => k_asm); (case k5Zq => k_asm); (case k6Zq => first | exact rfl | assumption); (case k7Zq => ktr_room); (case k8Zq => ktr_units); (case ndZq => k_mem); (case a0Zq => k_mem); (case b0Zq => k_mem); (case s0Zq => with_reducible assumption); (case q0Zq => with_reducible assumption); (case a1Zq => k_mem); (case b1Zq => k_mem); (case s1Zq => with_reducible assumption); (case q1Zq => with_reducible assumption); (case a2Zq => k_mem); (case b2Zq => k_mem); (case s2Zq => with_reducible assumption); (case q2Zq => with_reducible assumption); (case a3Zq => k_mem); (case b3Zq => k_mem); (case s3Zq => with_reducible assumption); (case q3Zq => with_reducible assumption); (case rZq => lcg_sub); (case wZq => first | exact way_east | exact way_west); (case zZq => with_reducible assumption); (case hZq => with_reducible assumption); (case g1Zq => exact leg_of (by with_reducible assumption) (by with_reducible assumption)); (case g2Zq => exact leg_of (by with_reducible assumption) (by with_reducible assumption)); (case g3Zq => exact leg_of (by with_reducible assumption) (by with_reducible assumption)); k_whole); intros; (try dsimp only); (try k_sweep)))
  (k_with "call ref" => (k_here; (with_reducible show wpAny _ _ (call (Value.ref 157) _) _ _ _); k_dflt (refine' cal_o ?k1Zq ?k2Zq ?k3Zq ?k4Zq ?k5Zq ?k6Zq ?k7Zq ?k8Zq ?wZq ?zZq ?m0Zq ?m1Zq ?m2Zq ?m3Zq ?_; (case k2Zq => k_asm); (case k1Zq => k_asm); (case k3Zq => k_asm); (case k4Zq => k_asm); (case k5Zq => k_asm); (case k6Zq => first | exact rfl | assumption); (case k7Zq => ktr_room); (case k8Zq => ktr_units); (case m0Zq => k_mem); (case m1Zq => k_mem); (case m2Zq => k_mem); (case m3Zq => k_mem); (case wZq => first | exact way_east | exact way_west); (case zZq => with_reducible assumption); k_whole); intros; (try dsimp only); (try k_sweep)))
  (k_with "call builtin:max" => (k_here; k_dflt (refine' max_law ?k1Zq ?k2Zq ?k3Zq ?k4Zq ?_; (case k1Zq => k_asm); (case k2Zq => k_asm); (case k3Zq => k_mem); (case k4Zq => exact rfl); k_whole); intro h' t' tk' F' N'; (try k_sweep)))
  (k_with "compareOp NotEq ref ref" => (k_here; k_dflt (refine' bools_ne ?k1Zq ?k2Zq ?k3Zq ?k4Zq ?k5Zq ?k6Zq ?k7Zq ?_; (case k1Zq => k_asm); (case k2Zq => k_mem); (case k3Zq => k_mem); (case k4Zq => ktr_units); (case k5Zq => first | exact rfl | simp); (case k6Zq => first | exact rfl | simp); (case k7Zq => first | exact rfl | simp))))
  (k_with "compareOp NotEq ref ref" => (k_here; k_dflt (refine' rows_o ?nZq ?maZq ?mbZq ?raZq ?rbZq ?xZq ?yZq ?uZq ?_; (case nZq => k_asm); (case maZq => with_reducible assumption); (case mbZq => with_reducible assumption); (case raZq => lcg_sub); (case rbZq => lcg_sub); (case xZq => with_reducible assumption); (case yZq => with_reducible assumption); (case uZq => ktr_units))))
  (k_with "k_subL" => first | exact trivial | with_reducible exact subL_of (fun q hq => hq) | with_reducible exact subL_of (fun q hq => List.Mem.tail _ hq) | with_reducible exact subL_of (fun q hq => List.Mem.tail _ (List.Mem.tail _ hq)) | (refine And.intro (by k_mem) ?_; k_subL))
  (k_with "eval Name" => (k_here; (with_reducible show wpAny _ _ (eval (Expr.Name _ _) (compEnvC _ _ _ _)) _ _ _); k_dflt (first | (refine' lcf_free ?NZq ?cZq ?mZq ?dZq ?_ ?aZq ?bZq; (case bZq => rfl); (case aZq => rfl); (case NZq => k_asm); (case cZq => rfl); (case mZq => k_mem); (case dZq => with_reducible assumption); k_whole) | refine LCgL.ld_own (by k_asm) (by k_mem) (by with_reducible assumption) (by with_reducible assumption) ?_)))
  (k_with "eval Name" => (k_here; (with_reducible show wpAny _ _ (eval (Expr.Name _ _) (envOfC _ _ _ _ _)) _ _ _); k_dflt (first | (refine' nameX_L ?FZq ?vZq ?_ ?aZq ?bZq; (case aZq => rfl); (case bZq => rfl); (case FZq => k_asm); (case vZq => rfl); k_whole) | (refine' nameX_C ?NZq ?cZq ?mZq ?dZq ?_ ?aZq ?bZq; (case aZq => rfl); (case bZq => rfl); (case NZq => k_asm); (case cZq => rfl); (case mZq => k_mem); (case dZq => with_reducible assumption); k_whole))))
  (k_with "subscriptTail" => (k_here; (with_reducible show wpAny _ _ (subscriptTail _ _ (Value.ref _) (Value.int _ _)) _ _ _);  k_dflt (refine' sub_tpl ?NZq ?mZq ?lZq ?dZq ?pZq ?qZq ?rZq ?_ ?sZq; (case NZq => k_asm); (case mZq => k_mem); (case lZq => exact rfl); (case dZq => exact rfl); (case pZq => decide); (case qZq => decide); (case rZq => exact rfl); (case sZq => with_unfolding_all rfl); k_whole)))
  (k_with "subscriptTail Name Constant ref int" => (k_here; (with_reducible show wpAny _ _ (subscriptTail _ _ (Value.ref _) (Value.int _ _)) _ _ _);  k_dflt (refine' sub_tpl ?NZq ?mZq ?lZq ?dZq ?pZq ?qZq ?rZq ?_ ?sZq; (case NZq => k_asm); (case mZq => k_mem); (case lZq => exact rfl); (case dZq => exact rfl); (case pZq => decide); (case qZq => decide); (case rZq => exact rfl); (case sZq => with_unfolding_all rfl); k_whole)))
  (k_with "subscriptTail Name Name ref int" => (k_here; (with_reducible show wpAny _ _ (subscriptTail _ _ (Value.ref _) (Value.int _ _)) _ _ _);  k_dflt (refine' sub_tpl ?NZq ?mZq ?lZq ?dZq ?pZq ?qZq ?rZq ?_ ?sZq; (case NZq => k_asm); (case mZq => k_mem); (case lZq => exact rfl); (case dZq => exact rfl); (case pZq => decide); (case qZq => decide); (case rZq => exact rfl); (case sZq => with_unfolding_all rfl); k_whole)))
  (k_with "subscriptTail Subscript Name Constant Constant ref int" => (k_here; (with_reducible show wpAny _ _ (subscriptTail _ _ (Value.ref _) (Value.int _ _)) _ _ _);  k_dflt (refine' sub_tpl ?NZq ?mZq ?lZq ?dZq ?pZq ?qZq ?rZq ?_ ?sZq; (case NZq => k_asm); (case mZq => k_mem); (case lZq => exact rfl); (case dZq => exact rfl); (case pZq => decide); (case qZq => decide); (case rZq => exact rfl); (case sZq => with_unfolding_all rfl); k_whole)))
  (k_with "subscriptTail Subscript Name Name Constant ref int" => (k_here; (with_reducible show wpAny _ _ (subscriptTail _ _ (Value.ref _) (Value.int _ _)) _ _ _);  k_dflt (refine' sub_tpl ?NZq ?mZq ?lZq ?dZq ?pZq ?qZq ?rZq ?_ ?sZq; (case NZq => k_asm); (case mZq => k_mem); (case lZq => exact rfl); (case dZq => exact rfl); (case pZq => decide); (case qZq => decide); (case rZq => exact rfl); (case sZq => with_unfolding_all rfl); k_whole)))
  (k_with "subscriptTail" => (k_here; (with_reducible show wpAny _ _ (subscriptTail _ _ (Value.ref _) (Value.int _ _)) _ _ _);  k_dflt (refine' sub_lst ?NZq ?mZq ?lZq ?dZq ?pZq ?qZq ?rZq ?_ ?sZq ?tZq; (case NZq => k_asm); (case mZq => k_mem); (case lZq => exact rfl); (case dZq => exact rfl); (case pZq => decide); (case qZq => decide); (case rZq => exact rfl); (case sZq => with_unfolding_all rfl); (case tZq => kmk_pure); k_whole)))
  (k_with "subscriptTail Name Constant ref int" => (k_here; (with_reducible show wpAny _ _ (subscriptTail _ _ (Value.ref _) (Value.int _ _)) _ _ _);  k_dflt (refine' sub_lst ?NZq ?mZq ?lZq ?dZq ?pZq ?qZq ?rZq ?_ ?sZq ?tZq; (case NZq => k_asm); (case mZq => k_mem); (case lZq => exact rfl); (case dZq => exact rfl); (case pZq => decide); (case qZq => decide); (case rZq => exact rfl); (case sZq => with_unfolding_all rfl); (case tZq => kmk_pure); k_whole)))
  (k_with "subscriptTail Name Name ref int" => (k_here; (with_reducible show wpAny _ _ (subscriptTail _ _ (Value.ref _) (Value.int _ _)) _ _ _);  k_dflt (refine' sub_lst ?NZq ?mZq ?lZq ?dZq ?pZq ?qZq ?rZq ?_ ?sZq ?tZq; (case NZq => k_asm); (case mZq => k_mem); (case lZq => exact rfl); (case dZq => exact rfl); (case pZq => decide); (case qZq => decide); (case rZq => exact rfl); (case sZq => with_unfolding_all rfl); (case tZq => kmk_pure); k_whole)))
  (k_with "subscriptTail Subscript Name Constant Constant ref int" => (k_here; (with_reducible show wpAny _ _ (subscriptTail _ _ (Value.ref _) (Value.int _ _)) _ _ _);  k_dflt (refine' sub_lst ?NZq ?mZq ?lZq ?dZq ?pZq ?qZq ?rZq ?_ ?sZq ?tZq; (case NZq => k_asm); (case mZq => k_mem); (case lZq => exact rfl); (case dZq => exact rfl); (case pZq => decide); (case qZq => decide); (case rZq => exact rfl); (case sZq => with_unfolding_all rfl); (case tZq => kmk_pure); k_whole)))
  (k_with "subscriptTail Subscript Name Name Constant ref int" => (k_here; (with_reducible show wpAny _ _ (subscriptTail _ _ (Value.ref _) (Value.int _ _)) _ _ _);  k_dflt (refine' sub_lst ?NZq ?mZq ?lZq ?dZq ?pZq ?qZq ?rZq ?_ ?sZq ?tZq; (case NZq => k_asm); (case mZq => k_mem); (case lZq => exact rfl); (case dZq => exact rfl); (case pZq => decide); (case qZq => decide); (case rZq => exact rfl); (case sZq => with_unfolding_all rfl); (case tZq => kmk_pure); k_whole)))
  (k_with "storeName" => (k_here; k_dflt (first | (refine' store_c1 ?fZq ?nZq ?cZq ?oZq ?dZq ?_ ?aZq ?bZq; (case aZq => rfl); (case bZq => rfl); (case fZq => k_asm); (case nZq => k_asm); (case cZq => rfl); (case oZq => k_all); (case dZq => with_reducible assumption); k_whole) | (refine' store_c2 ?fZq ?nZq ?cZq ?qZq ?oZq ?dZq ?_ ?aZq ?bZq; (case aZq => rfl); (case bZq => rfl); (case fZq => k_asm); (case nZq => k_asm); (case cZq => rfl); (case qZq => k_ne); (case oZq => k_all); (case dZq => with_reducible assumption); k_whole)); intro h' o' F' N' c'; (try k_sweep)))
  (k_with "callWith ref" => (k_here; (with_reducible show wpAny _ _ (callWith _ (Value.ref _) _ (backTo _ (starEach [] _)) []) _ _ _); k_dflt (refine' callWith_K0 ?k1Zq ?k2Zq ?_; (case k1Zq => exact Frag.In.keeps (by with_reducible assumption) (Fr.keep (by with_reducible assumption))); (case k2Zq => k_is); k_whole); (try dsimp only [List.cons_append, List.nil_append])))
  trivial
theorem law_all : PySem.Challenge.rw_xg0060_01.Holds := hd (by
  k_go0
  all_goals (try k_fold)
  all_goals (k_steps))
end Mine
end
end

theorem PySem.Challenge.cw_xg0060_01_holds : PySem.Challenge.rw_xg0060_01.Holds :=
  Mine.law_all
